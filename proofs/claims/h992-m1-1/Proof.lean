import JvmDerived
import JvmDerived.Pilot.@@N@@Statement
import JvmDerived.Pilot.@@N@@Code
set_option linter.unusedVariables false
set_option linter.unusedSimpArgs false
namespace Jvm.Own
open Sem ClassFile Op Lib Jvm.Stand Jvm.Free Jvm.LawKit Jvm.RoadKit
/-- from here the run goes on to a return that the contract allows -/
def Wk (p : Program) (e : Env) (below : List Frame) (F : Outcome → State → Prop) (T : State) (g : JFrame) : Prop :=
  ∃ s₂ o, Steps p.tables e below (T.setTop g) s₂ ∧ s₂.status = .running ∧ Ended s₂ below o ∧ F o s₂
abbrev FN (s : State) (Q : Option Value → Heap → List Loc → Prop) (kc ks : Nat) : Outcome → State → Prop := fun o s₂ => ∃ v L, o = .returned v ∧ Q v s₂.heap L ∧ FrameEnd s o s₂ L kc ks
section Walk
variable {p : Program} {l : Launch} {e : Env} {R : Room} {s : State} {m : MethodId} {args : Array Value} {below : List Frame} {meth : Method} {c : Code} {T : State} {locs : List Loc} {cells slots : Nat} {Q : Option Value → Heap → List Loc → Prop} {Fe : Outcome → State → Prop} {kc ks pc : Nat} {Ls : Array Slot} {S : List Value} {Z : State} {a0 : Array Value} {h : Heap}
theorem Wk.step {T' : State} {g g' : JFrame} (h : Wk p e below Fe T' g') (st : ∀ t, Steps p.tables e below (T'.setTop g') t → Steps p.tables e below (T.setTop g) t) : Wk p e below Fe T g := by
  obtain ⟨s₂, o, h1, h2⟩ := h
  exact ⟨s₂, o, st _ h1, h2⟩
theorem Wk.come {T' : State} {g g' : JFrame} (h : Wk p e below Fe T' g') (st : Steps p.tables e below (T.setTop g) (T'.setTop g')) : Wk p e below Fe T g := h.step fun _ k => st.trans k
theorem w_iload (X : Stand p l e R s m args below meth c T locs cells slots) (hx : p.tables.exec = Jvm.exec) {k : Nat} (v : Int32) (hd : decode c.code pc = .ok (.iload k, 2)) (pc' : Nat) (hp : pc + 2 = pc') (hl : Ls[k]? = some (.val (.int v))) (h : Wk p e below Fe T (mkF m pc' Ls (.int v :: S))) : Wk p e below Fe T (mkF m pc Ls S) := by
  subst hp; exact h.step fun _ k => XS.iload X.here hx rfl hd hl k
theorem w_iloadN (X : Stand p l e R s m args below meth c T locs cells slots) (hx : p.tables.exec = Jvm.exec) {k : Fin 4} (v : Int32) (hd : decode c.code pc = .ok (.iload_n k, 1)) (pc' : Nat) (hp : pc + 1 = pc') (hl : Ls[k.val]? = some (.val (.int v))) (h : Wk p e below Fe T (mkF m pc' Ls (.int v :: S))) : Wk p e below Fe T (mkF m pc Ls S) := by
  subst hp; exact h.step fun _ k => XS.iloadN X.here hx rfl hd hl k
theorem w_aload (X : Stand p l e R s m args below meth c T locs cells slots) (hx : p.tables.exec = Jvm.exec) {k : Nat} (v : Value) (hd : decode c.code pc = .ok (.aload k, 2)) (pc' : Nat) (hp : pc + 2 = pc') (hl : Ls[k]? = some (.val v)) (hv : v.isRef = true) (h : Wk p e below Fe T (mkF m pc' Ls (v :: S))) : Wk p e below Fe T (mkF m pc Ls S) := by
  subst hp; exact h.step fun _ k => XS.aload X.here hx rfl hd hl hv k
theorem w_aloadN (X : Stand p l e R s m args below meth c T locs cells slots) (hx : p.tables.exec = Jvm.exec) {k : Fin 4} (v : Value) (hd : decode c.code pc = .ok (.aload_n k, 1)) (pc' : Nat) (hp : pc + 1 = pc') (hl : Ls[k.val]? = some (.val v)) (hv : v.isRef = true) (h : Wk p e below Fe T (mkF m pc' Ls (v :: S))) : Wk p e below Fe T (mkF m pc Ls S) := by
  subst hp; exact h.step fun _ k => XS.aloadN X.here hx rfl hd hl hv k
theorem w_istore (X : Stand p l e R s m args below meth c T locs cells slots) (hx : p.tables.exec = Jvm.exec) {k : Nat} {x : Int32} (hd : decode c.code pc = .ok (.istore k, 2)) (pc' : Nat) (hp : pc + 2 = pc') (l' : Array Slot) (hl : storeLocals Ls k (.int x) = some l') (h : Wk p e below Fe T (mkF m pc' l' S)) : Wk p e below Fe T (mkF m pc Ls (.int x :: S)) := by
  subst hp; exact h.step fun _ k => XS.istore X.here hx rfl hd rfl hl k
theorem w_istoreN (X : Stand p l e R s m args below meth c T locs cells slots) (hx : p.tables.exec = Jvm.exec) {k : Fin 4} {x : Int32} (hd : decode c.code pc = .ok (.istore_n k, 1)) (pc' : Nat) (hp : pc + 1 = pc') (l' : Array Slot) (hl : storeLocals Ls k.val (.int x) = some l') (h : Wk p e below Fe T (mkF m pc' l' S)) : Wk p e below Fe T (mkF m pc Ls (.int x :: S)) := by
  subst hp; exact h.step fun _ k => XS.istoreN X.here hx rfl hd rfl hl k
theorem w_astore (X : Stand p l e R s m args below meth c T locs cells slots) (hx : p.tables.exec = Jvm.exec) {k : Nat} {x : Value} (hd : decode c.code pc = .ok (.astore k, 2)) (pc' : Nat) (hp : pc + 2 = pc') (hv : x.isRef = true) (l' : Array Slot) (hl : storeLocals Ls k x = some l') (h : Wk p e below Fe T (mkF m pc' l' S)) : Wk p e below Fe T (mkF m pc Ls (x :: S)) := by
  subst hp; exact h.step fun _ k => XS.astore X.here hx rfl hd rfl hv hl k
theorem w_iconst (X : Stand p l e R s m args below meth c T locs cells slots) (hx : p.tables.exec = Jvm.exec) {i : Int} (hd : decode c.code pc = .ok (.iconst i, 1)) (pc' : Nat) (hp : pc + 1 = pc') (z : Int32) (hz : Int32.ofInt i = z) (h : Wk p e below Fe T (mkF m pc' Ls (.int z :: S))) : Wk p e below Fe T (mkF m pc Ls S) := by
  subst hp hz; exact h.step fun _ k => XS.iconst X.here hx rfl hd k
theorem w_bipush (X : Stand p l e R s m args below meth c T locs cells slots) (hx : p.tables.exec = Jvm.exec) {i : Int} (hd : decode c.code pc = .ok (.bipush i, 2)) (pc' : Nat) (hp : pc + 2 = pc') (z : Int32) (hz : (Int8.ofInt i).toInt32 = z) (h : Wk p e below Fe T (mkF m pc' Ls (.int z :: S))) : Wk p e below Fe T (mkF m pc Ls S) := by
  subst hp hz; exact h.step fun _ k => XS.bipush X.here hx rfl hd k
theorem w_sipush (X : Stand p l e R s m args below meth c T locs cells slots) (hx : p.tables.exec = Jvm.exec) {i : Int} (hd : decode c.code pc = .ok (.sipush i, 3)) (pc' : Nat) (hp : pc + 3 = pc') (z : Int32) (hz : (Int16.ofInt i).toInt32 = z) (h : Wk p e below Fe T (mkF m pc' Ls (.int z :: S))) : Wk p e below Fe T (mkF m pc Ls S) := by
  subst hp hz; exact h.step fun _ k => XS.sipush X.here hx rfl hd k
theorem w_ldc (X : Stand p l e R s m args below meth c T locs cells slots) (hx : p.tables.exec = Jvm.exec) (hZ : Z.Warmed39 s.vm) {own : String} {index : Nat} {v : Int32} (hown : s.vm.findClass own = some m.cls) (w : (Cond.constant own index v).before a0 Z = true) (hd : decode c.code pc = .ok (.ldc index, 2)) (pc' : Nat) (hp : pc + 2 = pc') (h : Wk p e below Fe T (mkF m pc' Ls (.int v :: S))) : Wk p e below Fe T (mkF m pc Ls S) := by
  subst hp; exact h.step fun _ k => X.ldcInt hx hown (mvT hZ w) (g := mkF m pc Ls S) rfl hd _ k
theorem w_iand (X : Stand p l e R s m args below meth c T locs cells slots) (hx : p.tables.exec = Jvm.exec) {x y : Int32} (hd : decode c.code pc = .ok (.iand, 1)) (pc' : Nat) (hp : pc + 1 = pc') {z : Int32} (hz : z = x &&& y) (h : Wk p e below Fe T (mkF m pc' Ls (.int z :: S))) : Wk p e below Fe T (mkF m pc Ls (.int y :: .int x :: S)) := by
  subst hp hz; exact h.step fun _ k => XS.iand X.here hx rfl hd rfl k
theorem w_ior (X : Stand p l e R s m args below meth c T locs cells slots) (hx : p.tables.exec = Jvm.exec) {x y : Int32} (hd : decode c.code pc = .ok (.ior, 1)) (pc' : Nat) (hp : pc + 1 = pc') {z : Int32} (hz : z = x ||| y) (h : Wk p e below Fe T (mkF m pc' Ls (.int z :: S))) : Wk p e below Fe T (mkF m pc Ls (.int y :: .int x :: S)) := by
  subst hp hz; exact h.step fun _ k => XS.ior X.here hx rfl hd rfl k
theorem w_ishl (X : Stand p l e R s m args below meth c T locs cells slots) (hx : p.tables.exec = Jvm.exec) {x y : Int32} (hd : decode c.code pc = .ok (.ishl, 1)) (pc' : Nat) (hp : pc + 1 = pc') {z : Int32} (hz : z = x <<< (y &&& 31)) (h : Wk p e below Fe T (mkF m pc' Ls (.int z :: S))) : Wk p e below Fe T (mkF m pc Ls (.int y :: .int x :: S)) := by
  subst hp hz; exact h.step fun _ k => XS.ishl X.here hx rfl hd rfl k
theorem w_irem (X : Stand p l e R s m args below meth c T locs cells slots) (hx : p.tables.exec = Jvm.exec) {x y : Int32} (hd : decode c.code pc = .ok (.irem, 1)) (pc' : Nat) (hp : pc + 1 = pc') (hy : y ≠ 0) {z : Int32} (hz : z = x % y) (h : Wk p e below Fe T (mkF m pc' Ls (.int z :: S))) : Wk p e below Fe T (mkF m pc Ls (.int y :: .int x :: S)) := by
  subst hp hz; exact h.step fun _ k => iremM (g := mkF m pc Ls (.int y :: .int x :: S)) X hx rfl hd rfl hy k
theorem w_i2b (X : Stand p l e R s m args below meth c T locs cells slots) (hx : p.tables.exec = Jvm.exec) {x : Int32} (hd : decode c.code pc = .ok (.i2b, 1)) (pc' : Nat) (hp : pc + 1 = pc') {z : Int32} (hz : z = x.toInt8.toInt32) (h : Wk p e below Fe T (mkF m pc' Ls (.int z :: S))) : Wk p e below Fe T (mkF m pc Ls (.int x :: S)) := by
  subst hp hz; exact h.step fun _ k => XS.i2b X.here hx rfl hd rfl k
theorem w_goto (X : Stand p l e R s m args below meth c T locs cells slots) (hx : p.tables.exec = Jvm.exec) {o : Int} (hd : decode c.code pc = .ok (.goto o, 3)) (pc' : Nat) (h : Wk p e below Fe T (mkF m pc' Ls S)) (ho : 0 ≤ (pc : Int) + o := by decide) (hp : ((pc : Int) + o).toNat = pc' := by decide) : Wk p e below Fe T (mkF m pc Ls S) := by
  exact h.step fun _ k => XS.goto X.here hx rfl rfl hd ho hp k
theorem holds_eq {x y : Int32} {A B : Int} (ha : x.toInt = A) (hb : y.toInt = B) : ((A = B) → if_icmp.holds .eq x y = true) ∧ ((¬ A = B) → if_icmp.holds .eq x y = false) := by
  subst ha hb
  constructor
  · intro q
    first
    | exact (tlt (x := x) (y := y) (Int32.lt_iff_toInt_lt.mpr (by omega))).1
    | exact (flt (x := x) (y := y) (fun r => by have := Int32.lt_iff_toInt_lt.mp r; omega)).2.1
    | exact (tlt (x := y) (y := x) (Int32.lt_iff_toInt_lt.mpr (by omega))).2.2.1
    | exact (flt (x := y) (y := x) (fun r => by have := Int32.lt_iff_toInt_lt.mp r; omega)).2.2.2
    | exact (teq (x := x) (y := y) (Int32.toInt_inj.mp (by omega))).1
    | exact (feq (x := x) (y := y) (fun r => q (by rw [r]))).2
  · intro q
    first
    | exact (flt (x := x) (y := y) (fun r => by have := Int32.lt_iff_toInt_lt.mp r; omega)).1
    | exact (tlt (x := x) (y := y) (Int32.lt_iff_toInt_lt.mpr (by omega))).2.1
    | exact (flt (x := y) (y := x) (fun r => by have := Int32.lt_iff_toInt_lt.mp r; omega)).2.2.1
    | exact (tlt (x := y) (y := x) (Int32.lt_iff_toInt_lt.mpr (by omega))).2.2.2
    | exact (feq (x := x) (y := y) (fun r => q (by rw [r]))).1
    | exact (teq (x := x) (y := y) (Int32.toInt_inj.mp (by omega))).2
theorem w_if_eq (X : Stand p l e R s m args below meth c T locs cells slots) (hx : p.tables.exec = Jvm.exec) {x : Int32} {o : Int} (A : Int) (ha : x.toInt = A) (hd : decode c.code pc = .ok (.ifCond .eq o, 3)) (pt pn : Nat) (h1 : A = 0 → Wk p e below Fe T (mkF m pt Ls S)) (h2 : ¬ A = 0 → Wk p e below Fe T (mkF m pn Ls S)) (ho : 0 ≤ (pc : Int) + o := by decide) (hp : ((pc : Int) + o).toNat = pt := by decide) (hn : pc + 3 = pn := by rfl) : Wk p e below Fe T (mkF m pc Ls (.int x :: S)) := by
  subst hn
  have hb : (0 : Int32).toInt = 0 := rfl
  by_cases q : A = 0
  · exact (h1 q).step fun _ k => XS.ifYes X.here hx rfl rfl hd rfl ((if0 _ _).trans ((holds_eq ha hb).1 q)) ho hp k
  · have q' : ¬ A = 0 := by omega
    exact (h2 q').step fun _ k => XS.ifNo X.here hx rfl hd rfl ((if0 _ _).trans ((holds_eq ha hb).2 q')) k
theorem holds_ne {x y : Int32} {A B : Int} (ha : x.toInt = A) (hb : y.toInt = B) : ((¬ A = B) → if_icmp.holds .ne x y = true) ∧ ((A = B) → if_icmp.holds .ne x y = false) := by
  subst ha hb
  constructor
  · intro q
    first
    | exact (tlt (x := x) (y := y) (Int32.lt_iff_toInt_lt.mpr (by omega))).1
    | exact (flt (x := x) (y := y) (fun r => by have := Int32.lt_iff_toInt_lt.mp r; omega)).2.1
    | exact (tlt (x := y) (y := x) (Int32.lt_iff_toInt_lt.mpr (by omega))).2.2.1
    | exact (flt (x := y) (y := x) (fun r => by have := Int32.lt_iff_toInt_lt.mp r; omega)).2.2.2
    | exact (teq (x := x) (y := y) (Int32.toInt_inj.mp (by omega))).1
    | exact (feq (x := x) (y := y) (fun r => q (by rw [r]))).2
  · intro q
    first
    | exact (flt (x := x) (y := y) (fun r => by have := Int32.lt_iff_toInt_lt.mp r; omega)).1
    | exact (tlt (x := x) (y := y) (Int32.lt_iff_toInt_lt.mpr (by omega))).2.1
    | exact (flt (x := y) (y := x) (fun r => by have := Int32.lt_iff_toInt_lt.mp r; omega)).2.2.1
    | exact (tlt (x := y) (y := x) (Int32.lt_iff_toInt_lt.mpr (by omega))).2.2.2
    | exact (feq (x := x) (y := y) (fun r => q (by rw [r]))).1
    | exact (teq (x := x) (y := y) (Int32.toInt_inj.mp (by omega))).2
theorem w_icmp_ne (X : Stand p l e R s m args below meth c T locs cells slots) (hx : p.tables.exec = Jvm.exec) {x y : Int32} {o : Int} (A B : Int) (ha : x.toInt = A) (hb : y.toInt = B) (hd : decode c.code pc = .ok (.if_icmp .ne o, 3)) (pt pn : Nat) (h1 : ¬ A = B → Wk p e below Fe T (mkF m pt Ls S)) (h2 : A = B → Wk p e below Fe T (mkF m pn Ls S)) (ho : 0 ≤ (pc : Int) + o := by decide) (hp : ((pc : Int) + o).toNat = pt := by decide) (hn : pc + 3 = pn := by rfl) : Wk p e below Fe T (mkF m pc Ls (.int y :: .int x :: S)) := by
  subst hn
  by_cases q : ¬ A = B
  · exact (h1 q).step fun _ k => XS.icmpYes X.here hx rfl rfl hd rfl ((holds_ne ha hb).1 q) ho hp k
  · have q' : A = B := by omega
    exact (h2 q').step fun _ k => XS.icmpNo X.here hx rfl hd rfl ((holds_ne ha hb).2 q') k
theorem w_if_ne (X : Stand p l e R s m args below meth c T locs cells slots) (hx : p.tables.exec = Jvm.exec) {x : Int32} {o : Int} (A : Int) (ha : x.toInt = A) (hd : decode c.code pc = .ok (.ifCond .ne o, 3)) (pt pn : Nat) (h1 : ¬ A = 0 → Wk p e below Fe T (mkF m pt Ls S)) (h2 : A = 0 → Wk p e below Fe T (mkF m pn Ls S)) (ho : 0 ≤ (pc : Int) + o := by decide) (hp : ((pc : Int) + o).toNat = pt := by decide) (hn : pc + 3 = pn := by rfl) : Wk p e below Fe T (mkF m pc Ls (.int x :: S)) := by
  subst hn
  have hb : (0 : Int32).toInt = 0 := rfl
  by_cases q : ¬ A = 0
  · exact (h1 q).step fun _ k => XS.ifYes X.here hx rfl rfl hd rfl ((if0 _ _).trans ((holds_ne ha hb).1 q)) ho hp k
  · have q' : A = 0 := by omega
    exact (h2 q').step fun _ k => XS.ifNo X.here hx rfl hd rfl ((if0 _ _).trans ((holds_ne ha hb).2 q')) k
theorem holds_lt {x y : Int32} {A B : Int} (ha : x.toInt = A) (hb : y.toInt = B) : ((A < B) → if_icmp.holds .lt x y = true) ∧ ((B ≤ A) → if_icmp.holds .lt x y = false) := by
  subst ha hb
  constructor
  · intro q
    first
    | exact (tlt (x := x) (y := y) (Int32.lt_iff_toInt_lt.mpr (by omega))).1
    | exact (flt (x := x) (y := y) (fun r => by have := Int32.lt_iff_toInt_lt.mp r; omega)).2.1
    | exact (tlt (x := y) (y := x) (Int32.lt_iff_toInt_lt.mpr (by omega))).2.2.1
    | exact (flt (x := y) (y := x) (fun r => by have := Int32.lt_iff_toInt_lt.mp r; omega)).2.2.2
    | exact (teq (x := x) (y := y) (Int32.toInt_inj.mp (by omega))).1
    | exact (feq (x := x) (y := y) (fun r => q (by rw [r]))).2
  · intro q
    first
    | exact (flt (x := x) (y := y) (fun r => by have := Int32.lt_iff_toInt_lt.mp r; omega)).1
    | exact (tlt (x := x) (y := y) (Int32.lt_iff_toInt_lt.mpr (by omega))).2.1
    | exact (flt (x := y) (y := x) (fun r => by have := Int32.lt_iff_toInt_lt.mp r; omega)).2.2.1
    | exact (tlt (x := y) (y := x) (Int32.lt_iff_toInt_lt.mpr (by omega))).2.2.2
    | exact (feq (x := x) (y := y) (fun r => q (by rw [r]))).1
    | exact (teq (x := x) (y := y) (Int32.toInt_inj.mp (by omega))).2
theorem w_icmp_lt (X : Stand p l e R s m args below meth c T locs cells slots) (hx : p.tables.exec = Jvm.exec) {x y : Int32} {o : Int} (A B : Int) (ha : x.toInt = A) (hb : y.toInt = B) (hd : decode c.code pc = .ok (.if_icmp .lt o, 3)) (pt pn : Nat) (h1 : A < B → Wk p e below Fe T (mkF m pt Ls S)) (h2 : B ≤ A → Wk p e below Fe T (mkF m pn Ls S)) (ho : 0 ≤ (pc : Int) + o := by decide) (hp : ((pc : Int) + o).toNat = pt := by decide) (hn : pc + 3 = pn := by rfl) : Wk p e below Fe T (mkF m pc Ls (.int y :: .int x :: S)) := by
  subst hn
  by_cases q : A < B
  · exact (h1 q).step fun _ k => XS.icmpYes X.here hx rfl rfl hd rfl ((holds_lt ha hb).1 q) ho hp k
  · have q' : B ≤ A := by omega
    exact (h2 q').step fun _ k => XS.icmpNo X.here hx rfl hd rfl ((holds_lt ha hb).2 q') k
theorem holds_le {x y : Int32} {A B : Int} (ha : x.toInt = A) (hb : y.toInt = B) : ((A ≤ B) → if_icmp.holds .le x y = true) ∧ ((B < A) → if_icmp.holds .le x y = false) := by
  subst ha hb
  constructor
  · intro q
    first
    | exact (tlt (x := x) (y := y) (Int32.lt_iff_toInt_lt.mpr (by omega))).1
    | exact (flt (x := x) (y := y) (fun r => by have := Int32.lt_iff_toInt_lt.mp r; omega)).2.1
    | exact (tlt (x := y) (y := x) (Int32.lt_iff_toInt_lt.mpr (by omega))).2.2.1
    | exact (flt (x := y) (y := x) (fun r => by have := Int32.lt_iff_toInt_lt.mp r; omega)).2.2.2
    | exact (teq (x := x) (y := y) (Int32.toInt_inj.mp (by omega))).1
    | exact (feq (x := x) (y := y) (fun r => q (by rw [r]))).2
  · intro q
    first
    | exact (flt (x := x) (y := y) (fun r => by have := Int32.lt_iff_toInt_lt.mp r; omega)).1
    | exact (tlt (x := x) (y := y) (Int32.lt_iff_toInt_lt.mpr (by omega))).2.1
    | exact (flt (x := y) (y := x) (fun r => by have := Int32.lt_iff_toInt_lt.mp r; omega)).2.2.1
    | exact (tlt (x := y) (y := x) (Int32.lt_iff_toInt_lt.mpr (by omega))).2.2.2
    | exact (feq (x := x) (y := y) (fun r => q (by rw [r]))).1
    | exact (teq (x := x) (y := y) (Int32.toInt_inj.mp (by omega))).2
theorem w_icmp_le (X : Stand p l e R s m args below meth c T locs cells slots) (hx : p.tables.exec = Jvm.exec) {x y : Int32} {o : Int} (A B : Int) (ha : x.toInt = A) (hb : y.toInt = B) (hd : decode c.code pc = .ok (.if_icmp .le o, 3)) (pt pn : Nat) (h1 : A ≤ B → Wk p e below Fe T (mkF m pt Ls S)) (h2 : B < A → Wk p e below Fe T (mkF m pn Ls S)) (ho : 0 ≤ (pc : Int) + o := by decide) (hp : ((pc : Int) + o).toNat = pt := by decide) (hn : pc + 3 = pn := by rfl) : Wk p e below Fe T (mkF m pc Ls (.int y :: .int x :: S)) := by
  subst hn
  by_cases q : A ≤ B
  · exact (h1 q).step fun _ k => XS.icmpYes X.here hx rfl rfl hd rfl ((holds_le ha hb).1 q) ho hp k
  · have q' : B < A := by omega
    exact (h2 q').step fun _ k => XS.icmpNo X.here hx rfl hd rfl ((holds_le ha hb).2 q') k
theorem w_if_le (X : Stand p l e R s m args below meth c T locs cells slots) (hx : p.tables.exec = Jvm.exec) {x : Int32} {o : Int} (A : Int) (ha : x.toInt = A) (hd : decode c.code pc = .ok (.ifCond .le o, 3)) (pt pn : Nat) (h1 : A ≤ 0 → Wk p e below Fe T (mkF m pt Ls S)) (h2 : 0 < A → Wk p e below Fe T (mkF m pn Ls S)) (ho : 0 ≤ (pc : Int) + o := by decide) (hp : ((pc : Int) + o).toNat = pt := by decide) (hn : pc + 3 = pn := by rfl) : Wk p e below Fe T (mkF m pc Ls (.int x :: S)) := by
  subst hn
  have hb : (0 : Int32).toInt = 0 := rfl
  by_cases q : A ≤ 0
  · exact (h1 q).step fun _ k => XS.ifYes X.here hx rfl rfl hd rfl ((if0 _ _).trans ((holds_le ha hb).1 q)) ho hp k
  · have q' : 0 < A := by omega
    exact (h2 q').step fun _ k => XS.ifNo X.here hx rfl hd rfl ((if0 _ _).trans ((holds_le ha hb).2 q')) k
theorem w_retN (X : Stand p l e R s m args below meth c T locs cells slots) (hx : p.tables.exec = Jvm.exec) (hlocks : meth.locks = false) {t : FieldType} {z : Int32} (hret : meth.sig.returnType = some t) (ht : t = .boolean ∨ t = .byte ∨ t = .char ∨ t = .short) (hd : decode c.code pc = .ok (.ireturn, 1)) (hc : cells ≤ kc) (hs : slots ≤ ks) (hQ : Q (some (.int (nar t z))) T.heap locs) : Wk p e below (FN s Q kc ks) T (mkF m pc Ls (.int z :: S)) := by
  obtain ⟨fs, hr, hrun, hended, hW, hsame⟩ := X.leave (v := some (.int (nar t z))) (fun h => by rw [hret] at h; cases h) hlocks
  exact ⟨_, _, retN X hx hret ht hd hr, hrun, hended, _, _, rfl, hQ, ⟨_, rfl⟩, hW, hsame.mono hc hs⟩
theorem w_retO (X : Stand p l e R s m args below meth c T locs cells slots) (hx : p.tables.exec = Jvm.exec) (hlocks : meth.locks = false) {t : FieldType} {w : Value} {i : Instr} (hret : meth.sig.returnType = some t) (hn : narrow t w = w)
    (hi : (i = .ireturn ∧ (t = .int ∨ t = .boolean ∨ t = .byte ∨ t = .char ∨ t = .short) ∧ ∃ z, w = .int z) ∨ (i = .lreturn ∧ t = .long ∧ ∃ z, w = .long z) ∨ (i = .dreturn ∧ t = .double ∧ ∃ z, w = .double z) ∨ (i = .freturn ∧ t = .float ∧ ∃ z, w = .float z) ∨ (i = .areturn ∧ t.isReference = true ∧ w.isRef = true))
    (hd : decode c.code pc = .ok (i, 1)) (hc : cells ≤ kc) (hs : slots ≤ ks) (hQ : Q (some w) T.heap locs) : Wk p e below (FN s Q kc ks) T (mkF m pc Ls (w :: S)) := by
  obtain ⟨fs, hr, hrun, hended, hW, hsame⟩ := X.leave (v := some w) (fun h => by rw [hret] at h; cases h) hlocks
  exact ⟨_, _, retOut X hx hret hn hi hd hr, hrun, hended, _, _, rfl, hQ, ⟨_, rfl⟩, hW, hsame.mono hc hs⟩
theorem w_retI (X : Stand p l e R s m args below meth c T locs cells slots) (hx : p.tables.exec = Jvm.exec) (hlocks : meth.locks = false) {z : Int32} (hret : meth.sig.returnType = some .int) (hd : decode c.code pc = .ok (.ireturn, 1)) (hc : cells ≤ kc) (hs : slots ≤ ks) (hQ : Q (some (.int z)) T.heap locs) : Wk p e below (FN s Q kc ks) T (mkF m pc Ls (.int z :: S)) :=
  w_retO X hx hlocks hret rfl (Or.inl ⟨rfl, Or.inl rfl, _, rfl⟩) hd hc hs hQ
theorem w_retA (X : Stand p l e R s m args below meth c T locs cells slots) (hx : p.tables.exec = Jvm.exec) (hlocks : meth.locks = false) {t : FieldType} {w : Value} (hret : meth.sig.returnType = some t) (ht : t.isReference = true) (hw : w.isRef = true) (hd : decode c.code pc = .ok (.areturn, 1)) (hc : cells ≤ kc) (hs : slots ≤ ks) (hQ : Q (some w) T.heap locs) : Wk p e below (FN s Q kc ks) T (mkF m pc Ls (w :: S)) :=
  w_retO X hx hlocks hret (by cases t <;> first | (cases ht; done) | (cases w <;> first | rfl | (cases hw; done))) (Or.inr (Or.inr (Or.inr (Or.inr ⟨rfl, ht, hw⟩)))) hd hc hs hQ
theorem w_callS (X : Stand p l e R s m args below meth c T locs cells slots) (hx : p.tables.exec = Jvm.exec) (hZ : Z.Warmed39 s.vm) {own : String} {index : Nat} {y : MethodName} {bytes : ByteArray} {maxL : Nat} {ret : Option FieldType} {rm : Room} {as' : Array Value} {Qc : Option Value → Heap → List Loc → Prop} (hown : s.vm.findClass own = some m.cls) (eT : T.heap = h)
    (hM : MetFree l y (head1 [Cond.code y bytes maxL ret] rm) (fun a U => a = as' ∧ Z.Warmed39 U.vm ∧ U.heap = h) (fun _ _ _ _ _ => True) (fun _ U o U' => ∃ v L, o = .returned v ∧ Qc v U'.heap L ∧ FrameEnd U o U' L rm.cells rm.slots))
    (w1 : (Cond.methodLink own index y).before a0 Z = true) (w2 : (Cond.static y).before a0 Z = true) (w3 : (Cond.initialized y.cls).before a0 Z = true) (w4 : (Cond.code y bytes maxL ret).before a0 Z = true) (hy : y.cls ≠ "java/lang/invoke/MethodHandle" ∧ y.cls ≠ "java/lang/invoke/VarHandle")
    (hsize : Ls.size = c.maxLocals) (argsL rest : List Value) (hlen : ∀ sig, parseMethodDescriptor y.desc = some sig → argsL.length = sig.parameters.length) (hst : S = argsL.reverse ++ rest) (has : argsL.toArray = as')
    (hf : rm.frames + 1 ≤ R.frames) (W : Nat) (hW : (rest.map fun v => v.category).sum = W) (hl : W + (maxL + 11) + rm.locals ≤ R.locals) (hc : cells + rm.cells ≤ R.cells) (hs : slots + rm.slots ≤ R.slots) (hd : decode c.code pc = .ok (.invokestatic index, 3)) (pc' : Nat) (hp : pc + 3 = pc')
    (k : ∀ (v : Option Value) (T' : State) (L : List Loc), Stand p l e R s m args below meth c T' (locs ++ L) (cells + rm.cells) (slots + rm.slots) → Qc v T'.heap L → Wk p e below Fe T' (mkF m pc' Ls (v.toList ++ rest))) : Wk p e below Fe T (mkF m pc Ls S) := by
  subst hp hst has hW
  obtain ⟨v, _, ⟨T', L', k', n'⟩, -, X', ⟨Lc, q1, q2, q3, q4⟩, st⟩ := Jvm.LawKit.callS X hx hown (mvT hZ w1) (mvT hZ w2) (mvT hZ w3) (mvT hZ w4) hy (backOf hM hZ w4 w3 hf hl) (g := mkF m pc Ls (argsL.reverse ++ rest)) rfl hsize hlen rfl (by show 2 * 0 + _ ≤ _; rw [Nat.mul_zero, Nat.zero_add]; exact Nat.le_refl _) hd (fun _ _ => ⟨rfl, eT, hc, hs⟩)
  dsimp only [Pt.U, Pt.locs, Pt.cells, Pt.slots] at X' q2 q3 q4 st q1
  subst q2 q3 q4
  exact (k v T' Lc X' q1).step st
theorem w_newP (X : Stand p l e R s m args below meth c T locs cells slots) (hx : p.tables.exec = Jvm.exec) (hZ : Z.Warmed39 s.vm) (eT : T.heap = h) {aty : ArrayType} (w : (Cond.arrayClass (newarray.typeOf aty)).before a0 Z = true) {n : Int32} (hn : ¬ n < 0) (cap : Nat) (hcap : n.toNatClampNeg ≤ cap) (hb : cap * 8 ≤ 536870912) (hc : cells + 1 ≤ R.cells) (hl : slots + cap ≤ R.slots) (hd : decode c.code pc = .ok (.newarray aty, 2)) (pc' : Nat) (hp : pc + 2 = pc')
    (k : ∀ (T' : State) (h' : Heap) (a : Addr) (cA : ClassId), Stand p l e R s m args below meth c T' locs (cells + 1) (slots + cap) → T'.heap = h' → a = h.size → Ext h h' → Arv Z h' a cA (newarray.typeOf aty) n [] (defaultValue (newarray.typeOf aty)) → Wk p e below Fe T' (mkF m pc' Ls (.ref a :: S))) : Wk p e below Fe T (mkF m pc Ls (.int n :: S)) := by
  subst hp
  obtain ⟨T', h', cA, X', e', E', A', st⟩ := newP X hx hZ w eT (g := mkF m pc Ls (.int n :: S)) rfl hd rfl hn hcap hb hc hl
  exact (k T' h' _ cA X' e' rfl E' (Arv.new A' hn)).step st
theorem w_length (X : Stand p l e R s m args below meth c T locs cells slots) (hx : p.tables.exec = Jvm.exec) (hZ : Z.Warmed39 s.vm) (eT : T.heap = h) {a : Addr} {kA : ClassId} {ty : FieldType} {z : Int32} {vs : List Value} {dv : Value} (A : Arv Z h a kA ty z vs dv) (hd : decode c.code pc = .ok (.arraylength, 1)) (pc' : Nat) (hp : pc + 1 = pc')
    (k : Wk p e below Fe T (mkF m pc' Ls (.int z :: S))) : Wk p e below Fe T (mkF m pc Ls (.ref a :: S)) := by
  subst hp
  obtain ⟨cl, Ar, -, Sz, Nz, -, -⟩ := A
  refine k.step fun t q => X.arraylength hx (by rw [eT]; exact Ar.1) (State.isArrayOf_alike hZ.alike Ar.2.1) (g := mkF m pc Ls (.ref a :: S)) rfl rfl hd t ?_
  rw [len_of Sz Nz]; exact q
theorem w_bastore (X : Stand p l e R s m args below meth c T locs cells slots) (hx : p.tables.exec = Jvm.exec) (hZ : Z.Warmed39 s.vm) (eT : T.heap = h) {a : Addr} {kA : ClassId} {z : Int32} {vs : List Value} {dv : Value} (A : Arv Z h a kA .byte z vs dv) {j x : Int32} (hj : 0 ≤ j.toInt ∧ j.toInt < z.toInt) (i : Nat) (hi : j.toNatClampNeg = i) (hv : i < vs.length) (hd : decode c.code pc = .ok (.bastore, 1)) (pc' : Nat) (hp : pc + 1 = pc')
    (k : ∀ (T' : State) (h' : Heap), Stand p l e R s m args below meth c T' (locs ++ [⟨a, j.toNatClampNeg⟩]) cells slots → T'.heap = h' → Wr h h' a j.toNatClampNeg (.int x.toInt8.toInt32) → Arv Z h' a kA .byte z (vs.set i (.int x.toInt8.toInt32)) dv → Wk p e below Fe T' (mkF m pc' Ls S)) : Wk p e below Fe T (mkF m pc Ls (.int x :: .int j :: .ref a :: S)) := by
  subst hp
  obtain ⟨cl, Ar, q, Sz, Nz, H, G⟩ := A
  have hin : ¬ (j < 0 ∨ cl.slots.size ≤ j.toNatClampNeg) := inb_of Sz ⟨fun r => by have := Int32.lt_iff_toInt_lt.mp r; have h0 : (0 : Int32).toInt = 0 := rfl; omega, Int32.lt_iff_toInt_lt.mpr hj.2⟩
  obtain ⟨T', h', X', e', W', st⟩ := stB X hx hZ eT Ar hin (g := mkF m pc Ls (.int x :: .int j :: .ref a :: S)) rfl rfl hd
  exact (k T' h' X' e' W' (Arv.set Ar q Sz Nz H G (fits_nar_byte _) W' i hi hv)).step st
theorem w_baload (X : Stand p l e R s m args below meth c T locs cells slots) (hx : p.tables.exec = Jvm.exec) (hZ : Z.Warmed39 s.vm) (eT : T.heap = h) {a : Addr} {kA : ClassId} {z : Int32} {vs : List Value} {dv : Value} (A : Arv Z h a kA .byte z vs dv) {j : Int32} (hj : 0 ≤ j.toInt ∧ j.toInt < z.toInt) {v : Value} (hv : vs.getD j.toNatClampNeg dv = v) (hd : decode c.code pc = .ok (.baload, 1)) (pc' : Nat) (hp : pc + 1 = pc')
    (k : Wk p e below Fe T (mkF m pc' Ls (v :: S))) : Wk p e below Fe T (mkF m pc Ls (.int j :: .ref a :: S)) := by
  subst hp
  obtain ⟨cl, Ar, q, Sz, Nz, H, G⟩ := A
  have hin : ¬ (j < 0 ∨ cl.slots.size ≤ j.toNatClampNeg) := inb_of Sz ⟨fun r => by have := Int32.lt_iff_toInt_lt.mp r; have h0 : (0 : Int32).toInt = 0 := rfl; omega, Int32.lt_iff_toInt_lt.mpr hj.2⟩
  exact k.step fun t r => X.baloadBytes hx (by rw [eT]; exact Ar.1) (State.isArrayOf_alike hZ.alike Ar.2.1) Ar.2.2 hin (Has.at H hin hv) (g := mkF m pc Ls (.int j :: .ref a :: S)) rfl rfl hd t r
abbrev CT (l : Launch) (y : MethodName) (bytes : ByteArray) (maxL : Nat) (ret : Option FieldType) (ws : List Cond) (rm : Room) (as' : Array Value) (Z : State) (h0 : Heap) (Q : Option Value → Heap → List Loc → Prop) : Prop :=
  MetFree l y (head1 (Cond.code y bytes maxL ret :: ws) rm) (fun a U => a = as' ∧ Z.Warmed39 U.vm ∧ U.heap = h0) (fun _ _ _ _ _ => True) (fun _ U o U' => ∃ v L, o = .returned v ∧ Q v U'.heap L ∧ FrameEnd U o U' L rm.cells rm.slots)
theorem body_of {y : MethodName} {bytes : ByteArray} {maxL : Nat} {ret : Option FieldType} {ws : List Cond} {rm : Room} {as' : Array Value} {h0 : Heap} (hpl : plainFor y = true)
    (k : ∀ (p : Program) (e : Env) (s : State) (m : MethodId) (below : List Frame) (meth : Method) (c : Code) (s₁ : State), p.tables.exec = Jvm.exec → (∀ {pc : Nat} {r : Except DecodeError (Instr × Nat)}, decode bytes pc = r → decode c.code pc = r) → meth.sig.returnType = ret → meth.locks = false → c.maxLocals = maxL → s.vm.findClass y.cls = some m.cls → meth.name = y.name → Stand p l e rm s m as' below meth c s₁ [] 0 0 → s₁.heap = h0 → Z.Warmed39 s.vm → Wk p e below (FN s Q kc ks) s₁ (entryFrame m as' maxL)) :
    MetFree l y (head1 (Cond.code y bytes maxL ret :: ws) rm) (fun a U => a = as' ∧ Z.Warmed39 U.vm ∧ U.heap = h0) (fun _ _ _ _ _ => True) (fun _ U o U' => ∃ v L, o = .returned v ∧ Q v U'.heap L ∧ FrameEnd U o U' L kc ks) := by
  refine MetFree.of_bodySF hpl hisR ?_
  intro p e s m args below meth c s₁ Bd hml0 hP hK
  obtain ⟨rfl, hZ, hh⟩ := hP
  obtain ⟨s₂, o, h1, h2⟩ := k p e s m below meth c s₁ Bd.exec (fun q => hb Bd.bytes q) Bd.returns Bd.notSynchronized hml0 (findClass_of_methodNamed Bd.named) (name_of_methodNamed Bd.named Bd.method).1 (Stand.of_body Bd) (by rw [← hh, Bd.state]; rfl) hZ
  exact ⟨s₂, o, h1, h2⟩
end Walk
/-! plain facts on Int32 and Int64, in Ints -/
theorem eqI {x y : Int32} (h : x.toInt = y.toInt) : x = y := Int32.toInt_inj.mp h
theorem maskX {x m : Int32} {A : Int} (k : Nat) (ha : x.toInt = A) (hk : k ≤ 31) (hm : m.toBitVec.toNat = 2 ^ k - 1) : (x &&& m).toInt = A % (2 ^ k : Nat) := by subst ha; exact c_mask x m k hk hm
theorem iremX {x y : Int32} {A d : Int} (ha : x.toInt = A) (hy : y.toInt = d) (h0 : 0 ≤ A) : (x % y).toInt = A % d := by subst ha; exact (c_irem x y d hy).1 h0
theorem i2bX {x : Int32} {A : Int} (ha : x.toInt = A) : (x.toInt8.toInt32.toInt - A) % 256 = 0 ∧ -128 ≤ x.toInt8.toInt32.toInt ∧ x.toInt8.toInt32.toInt < 128 := by
  subst ha; exact c_i2b x
theorem byteE {x : Int32} {A : Int} (ha : x.toInt = A) (h0 : -128 ≤ A) (h1 : A < 128) : x.toInt8.toInt32.toInt = x.toInt := by
  have := c_i2b x; omega
theorem ishlX {x q : Int32} {A : Int} (k : Nat) (ha : x.toInt = A) (hk : q.toBitVec.toNat % 32 = k) (h0 : -2147483648 ≤ A * (2 ^ k : Nat)) (h1 : A * (2 ^ k : Nat) < 2147483648) : (x <<< (q &&& 31)).toInt = A * (2 ^ k : Nat) := by
  subst ha; have := c_ishl x q k hk; have := rng32 (x <<< (q &&& 31)); omega
theorem orX {x y : Int32} {A B : Int} (k : Nat) (ha : x.toInt = A) (hb : y.toInt = B) (hk : k ≤ 31) (P : Int) (hP : P = (2 ^ k : Nat)) (hm : A % P = 0) (h0 : 0 ≤ A) (h1 : 0 ≤ B) (h2 : B < P) (h3 : A + B < 2147483648) : (x ||| y).toInt = A + B := by
  subst ha hb
  have := c_or x y k hk P hP hm h1 h2; have := rng32 (x ||| y); omega
end Jvm.Own
namespace Jvm.Pilot.@@N@@
open Jvm Jvm.ClassFile Sem Op Lib Jvm.Free Jvm.Stand Jvm.LawKit Jvm.RoadKit Bundle Jvm.Own Jvm.Pilot.@@N@@.Jvm.D
abbrev cN_0 : String := "com/example/dryope/dryope/text/Utf8TextMarkLengthPinLaw"
abbrev cN_1 : String := "com/example/dryope/dryope/text/Utf8Text"
theorem tw_0 {Z : State} {a0 : Array Value} (hw : ∀ d ∈ tables_1, d.before a0 Z = true) : (Jvm.Cond.constant "com/example/dryope/dryope/text/Utf8TextMarkLengthPinLaw" (7 : Nat) (2147483647 : Int32)).before a0 Z = true := hw _ (List.mem_of_getElem? (i := 0) rfl)
theorem tw_1 {Z : State} {a0 : Array Value} (hw : ∀ d ∈ tables_1, d.before a0 Z = true) : (Jvm.Cond.methodLink "com/example/dryope/dryope/text/Utf8TextMarkLengthPinLaw" (8 : Nat) ({ cls := "com/example/dryope/dryope/text/Utf8TextMarkLengthPinLaw", name := "make", desc := "(I)[B" } : Jvm.MethodName)).before a0 Z = true := hw _ (List.mem_of_getElem? (i := 1) rfl)
theorem tw_2 {Z : State} {a0 : Array Value} (hw : ∀ d ∈ tables_1, d.before a0 Z = true) : (Jvm.Cond.static ({ cls := "com/example/dryope/dryope/text/Utf8TextMarkLengthPinLaw", name := "make", desc := "(I)[B" } : Jvm.MethodName)).before a0 Z = true := hw _ (List.mem_of_getElem? (i := 2) rfl)
theorem tw_3 {Z : State} {a0 : Array Value} (hw : ∀ d ∈ tables_1, d.before a0 Z = true) : (Jvm.Cond.initialized "com/example/dryope/dryope/text/Utf8TextMarkLengthPinLaw").before a0 Z = true := hw _ (List.mem_of_getElem? (i := 3) rfl)
theorem tw_4 {Z : State} {a0 : Array Value} (hw : ∀ d ∈ tables_1, d.before a0 Z = true) : (Jvm.Cond.code ({ cls := "com/example/dryope/dryope/text/Utf8TextMarkLengthPinLaw", name := "make", desc := "(I)[B" } : Jvm.MethodName) method_3_code (1 : Nat) (Option.some (Jvm.ClassFile.FieldType.array Jvm.ClassFile.FieldType.byte))).before a0 Z = true := hw _ (List.mem_of_getElem? (i := 4) rfl)
theorem tw_5 {Z : State} {a0 : Array Value} (hw : ∀ d ∈ tables_1, d.before a0 Z = true) : (Jvm.Cond.arrayClass Jvm.ClassFile.FieldType.byte).before a0 Z = true := hw _ (List.mem_of_getElem? (i := 5) rfl)
theorem tw_6 {Z : State} {a0 : Array Value} (hw : ∀ d ∈ tables_1, d.before a0 Z = true) : (Jvm.Cond.methodLink "com/example/dryope/dryope/text/Utf8TextMarkLengthPinLaw" (15 : Nat) ({ cls := "com/example/dryope/dryope/text/Utf8Text", name := "markLength", desc := "([BI)I" } : Jvm.MethodName)).before a0 Z = true := hw _ (List.mem_of_getElem? (i := 6) rfl)
theorem tw_7 {Z : State} {a0 : Array Value} (hw : ∀ d ∈ tables_1, d.before a0 Z = true) : (Jvm.Cond.static ({ cls := "com/example/dryope/dryope/text/Utf8Text", name := "markLength", desc := "([BI)I" } : Jvm.MethodName)).before a0 Z = true := hw _ (List.mem_of_getElem? (i := 7) rfl)
theorem tw_8 {Z : State} {a0 : Array Value} (hw : ∀ d ∈ tables_1, d.before a0 Z = true) : (Jvm.Cond.initialized "com/example/dryope/dryope/text/Utf8Text").before a0 Z = true := hw _ (List.mem_of_getElem? (i := 8) rfl)
theorem tw_9 {Z : State} {a0 : Array Value} (hw : ∀ d ∈ tables_1, d.before a0 Z = true) : (Jvm.Cond.code ({ cls := "com/example/dryope/dryope/text/Utf8Text", name := "markLength", desc := "([BI)I" } : Jvm.MethodName) prog_28_method_4_code (3 : Nat) (Option.some Jvm.ClassFile.FieldType.int)).before a0 Z = true := hw _ (List.mem_of_getElem? (i := 9) rfl)
theorem tw_10 {Z : State} {a0 : Array Value} (hw : ∀ d ∈ tables_1, d.before a0 Z = true) : (Jvm.Cond.constant "com/example/dryope/dryope/text/Utf8TextMarkLengthPinLaw" (14 : Nat) (15711167 : Int32)).before a0 Z = true := hw _ (List.mem_of_getElem? (i := 10) rfl)
theorem d1_0 : decode method_3_code 0 = .ok (.iload_n 0, 1) := by decide +kernel
theorem d1_1 : decode method_3_code 1 = .ok (.ifCond .ne 7, 3) := by decide +kernel
theorem d1_4 : decode method_3_code 4 = .ok (.iconst 0, 1) := by decide +kernel
theorem d1_5 : decode method_3_code 5 = .ok (.newarray .byte, 2) := by decide +kernel
theorem d1_7 : decode method_3_code 7 = .ok (.areturn, 1) := by decide +kernel
theorem d1_8 : decode method_3_code 8 = .ok (.iload_n 0, 1) := by decide +kernel
theorem d1_9 : decode method_3_code 9 = .ok (.iconst 1, 1) := by decide +kernel
theorem d1_10 : decode method_3_code 10 = .ok (.if_icmp .ne 7, 3) := by decide +kernel
theorem d1_13 : decode method_3_code 13 = .ok (.iconst 1, 1) := by decide +kernel
theorem d1_14 : decode method_3_code 14 = .ok (.newarray .byte, 2) := by decide +kernel
theorem d1_16 : decode method_3_code 16 = .ok (.areturn, 1) := by decide +kernel
theorem d1_17 : decode method_3_code 17 = .ok (.iload_n 0, 1) := by decide +kernel
theorem d1_18 : decode method_3_code 18 = .ok (.iconst 2, 1) := by decide +kernel
theorem d1_19 : decode method_3_code 19 = .ok (.if_icmp .ne 7, 3) := by decide +kernel
theorem d1_22 : decode method_3_code 22 = .ok (.iconst 2, 1) := by decide +kernel
theorem d1_23 : decode method_3_code 23 = .ok (.newarray .byte, 2) := by decide +kernel
theorem d1_25 : decode method_3_code 25 = .ok (.areturn, 1) := by decide +kernel
theorem d1_26 : decode method_3_code 26 = .ok (.iload_n 0, 1) := by decide +kernel
theorem d1_27 : decode method_3_code 27 = .ok (.iconst 3, 1) := by decide +kernel
theorem d1_28 : decode method_3_code 28 = .ok (.if_icmp .ne 7, 3) := by decide +kernel
theorem d1_31 : decode method_3_code 31 = .ok (.iconst 3, 1) := by decide +kernel
theorem d1_32 : decode method_3_code 32 = .ok (.newarray .byte, 2) := by decide +kernel
theorem d1_34 : decode method_3_code 34 = .ok (.areturn, 1) := by decide +kernel
theorem d1_35 : decode method_3_code 35 = .ok (.iconst 4, 1) := by decide +kernel
theorem d1_36 : decode method_3_code 36 = .ok (.newarray .byte, 2) := by decide +kernel
theorem d1_38 : decode method_3_code 38 = .ok (.areturn, 1) := by decide +kernel
theorem pn_0 : plainName "com/example/dryope/dryope/text/Utf8TextMarkLengthPinLaw" = true := by first | (simp [plainName, overriddenIn]; done) | decide +kernel
abbrev mN_1 : MethodName := ⟨"com/example/dryope/dryope/text/Utf8TextMarkLengthPinLaw", "make", "(I)[B"⟩
theorem d2_0 : decode prog_28_method_4_code 0 = .ok (.iload_n 1, 1) := by decide +kernel
theorem d2_1 : decode prog_28_method_4_code 1 = .ok (.iconst 3, 1) := by decide +kernel
theorem d2_2 : decode prog_28_method_4_code 2 = .ok (.if_icmp .lt 31, 3) := by decide +kernel
theorem d2_5 : decode prog_28_method_4_code 5 = .ok (.aload_n 0, 1) := by decide +kernel
theorem d2_6 : decode prog_28_method_4_code 6 = .ok (.iconst 0, 1) := by decide +kernel
theorem d2_7 : decode prog_28_method_4_code 7 = .ok (.baload, 1) := by decide +kernel
theorem d2_8 : decode prog_28_method_4_code 8 = .ok (.bipush (-17), 2) := by decide +kernel
theorem d2_10 : decode prog_28_method_4_code 10 = .ok (.if_icmp .ne 23, 3) := by decide +kernel
theorem d2_13 : decode prog_28_method_4_code 13 = .ok (.aload_n 0, 1) := by decide +kernel
theorem d2_14 : decode prog_28_method_4_code 14 = .ok (.iconst 1, 1) := by decide +kernel
theorem d2_15 : decode prog_28_method_4_code 15 = .ok (.baload, 1) := by decide +kernel
theorem d2_16 : decode prog_28_method_4_code 16 = .ok (.bipush (-69), 2) := by decide +kernel
theorem d2_18 : decode prog_28_method_4_code 18 = .ok (.if_icmp .ne 15, 3) := by decide +kernel
theorem d2_21 : decode prog_28_method_4_code 21 = .ok (.aload_n 0, 1) := by decide +kernel
theorem d2_22 : decode prog_28_method_4_code 22 = .ok (.iconst 2, 1) := by decide +kernel
theorem d2_23 : decode prog_28_method_4_code 23 = .ok (.baload, 1) := by decide +kernel
theorem d2_24 : decode prog_28_method_4_code 24 = .ok (.bipush (-65), 2) := by decide +kernel
theorem d2_26 : decode prog_28_method_4_code 26 = .ok (.if_icmp .ne 7, 3) := by decide +kernel
theorem d2_29 : decode prog_28_method_4_code 29 = .ok (.iconst 1, 1) := by decide +kernel
theorem d2_30 : decode prog_28_method_4_code 30 = .ok (.goto 4, 3) := by decide +kernel
theorem d2_33 : decode prog_28_method_4_code 33 = .ok (.iconst 0, 1) := by decide +kernel
theorem d2_34 : decode prog_28_method_4_code 34 = .ok (.istore_n 2, 1) := by decide +kernel
theorem d2_35 : decode prog_28_method_4_code 35 = .ok (.iload_n 2, 1) := by decide +kernel
theorem d2_36 : decode prog_28_method_4_code 36 = .ok (.ifCond .eq 7, 3) := by decide +kernel
theorem d2_39 : decode prog_28_method_4_code 39 = .ok (.iconst 3, 1) := by decide +kernel
theorem d2_40 : decode prog_28_method_4_code 40 = .ok (.goto 4, 3) := by decide +kernel
theorem d2_43 : decode prog_28_method_4_code 43 = .ok (.iconst 0, 1) := by decide +kernel
theorem d2_44 : decode prog_28_method_4_code 44 = .ok (.ireturn, 1) := by decide +kernel
theorem pn_1 : plainName "com/example/dryope/dryope/text/Utf8Text" = true := by first | (simp [plainName, overriddenIn]; done) | decide +kernel
abbrev mN_2 : MethodName := ⟨"com/example/dryope/dryope/text/Utf8Text", "markLength", "([BI)I"⟩
theorem pd_0 : parseMethodDescriptor "(I)[B" = some ⟨[.int], some (.array .byte)⟩ := by decide +kernel
theorem pd_1 : parseMethodDescriptor "([BI)I" = some ⟨[(.array .byte), .int], some .int⟩ := by decide +kernel
theorem ef_1 (m : MethodId) (x0 : Int32) : entryFrame m #[(.int x0)] 1 = mkF m 0 #[.val (.int x0)] [] := by first | (simp [entryFrame, mkF, argsToLocals, Value.category]; done) | rfl
def Q1 (Z : State) (xk : Int32) (h0 : Heap) (n0 : Nat) (v : Option Value) (h : Heap) (L : List Loc) : Prop := ∃ bb : Addr, ∃ kb : ClassId, ∃ zz : Int32, v = some (.ref bb) ∧ (zz.toInt = xk.toInt) ∧ Fr n0 L ∧ Keep h0 h [] ∧ h0.size ≤ bb ∧ Arv Z h bb kb .byte zz [(.int (0 : Int32)), (.int (0 : Int32)), (.int (0 : Int32)), (.int (0 : Int32))] (.int (0 : Int32))
set_option maxRecDepth 65536 in
set_option maxHeartbeats 40000000 in
theorem rm1 (l : Launch) (Z : State) (a0 : Array Value) (hw : ∀ d ∈ tables_1, d.before a0 Z = true) (ws : List Jvm.Cond) (xk : Int32) (h0 : Heap) (n0 : Nat) (Z0 : n0 ≤ h0.size) (p0 : 0 ≤ xk.toInt) (p1 : xk.toInt ≤ 4) :
    CT l mN_1 method_3_code 1 (some (.array .byte)) ws ({ frames := 0, cells := 1, slots := 4, locals := 0 } : Room) #[(.int xk)] Z h0 (Q1 Z xk h0 n0) := by
  refine body_of (plainFor_of_name pn_0) ?_
  intro p e s m below meth c s₁ hx dB hret hlk hml hown0 hnm X0 e0 hZ
  have hown : s.vm.findClass cN_0 = some m.cls := hown0
  have N0 := Fr.nil n0
  rw [ef_1]
  show Wk p e below (FN s (Q1 Z xk h0 n0) 1 4) s₁ (mkF m 0 #[.val (.int xk)] [])
  have r_xk := rng32 xk
  refine w_iloadN X0 hx xk (dB d1_0) 1 rfl rfl ?_
  refine w_if_ne X0 hx xk.toInt rfl (dB d1_1) 8 4 (fun c1 => ?_) (fun c1 => ?_)
  ·refine w_iloadN X0 hx xk (dB d1_8) 9 rfl rfl ?_
   refine w_iconst X0 hx (dB d1_9) 10 rfl (1 : Int32) (by decide) ?_
   refine w_icmp_ne X0 hx xk.toInt 1 rfl (by decide) (dB d1_10) 17 13 (fun c2 => ?_) (fun c2 => ?_)
   ·refine w_iloadN X0 hx xk (dB d1_17) 18 rfl rfl ?_
    refine w_iconst X0 hx (dB d1_18) 19 rfl (2 : Int32) (by decide) ?_
    refine w_icmp_ne X0 hx xk.toInt 2 rfl (by decide) (dB d1_19) 26 22 (fun c3 => ?_) (fun c3 => ?_)
    ·refine w_iloadN X0 hx xk (dB d1_26) 27 rfl rfl ?_
     refine w_iconst X0 hx (dB d1_27) 28 rfl (3 : Int32) (by decide) ?_
     refine w_icmp_ne X0 hx xk.toInt 3 rfl (by decide) (dB d1_28) 35 31 (fun c4 => ?_) (fun c4 => ?_)
     ·refine w_iconst X0 hx (dB d1_35) 36 rfl (4 : Int32) (by decide) ?_
      refine w_newP X0 hx hZ e0 (aty := .byte) (tw_5 hw) (by decide) 4 (by decide) (by decide) (by decide) (by decide) (dB d1_36) 38 rfl (fun T5 h5 a5 k5 X5 e5 g5 E5 A5 => ?_)
      have g_a5 : n0 ≤ a5 := Nat.le_trans Z0 (Nat.le_of_eq g5.symm)
      have s_a5 : h0.size ≤ a5 := Nat.le_trans (Keep.refl h0 []).1 (Nat.le_of_eq g5.symm)
      have Z5 : n0 ≤ h5.size := Nat.le_trans Z0 E5.1
      have K5 : Keep h0 h5 [] := (Keep.refl h0 []).ext E5
      have V5 : Arv Z h5 a5 k5 .byte (4 : Int32) [(.int (0 : Int32)), (.int (0 : Int32)), (.int (0 : Int32)), (.int (0 : Int32))] (.int (0 : Int32)) := A5.pad (pad_rep [] (.int (0 : Int32)) 4)
      refine w_retA X5 hx hlk hret rfl rfl (dB d1_38) (by decide) (by decide) ?_
      rw [e5]
      exact ⟨a5, k5, (4 : Int32), rfl, by have hw_zz : (4 : Int32).toInt = 4 := (by decide); omega, N0, K5, s_a5, V5⟩
     ·refine w_iconst X0 hx (dB d1_31) 32 rfl (3 : Int32) (by decide) ?_
      refine w_newP X0 hx hZ e0 (aty := .byte) (tw_5 hw) (by decide) 3 (by decide) (by decide) (by decide) (by decide) (dB d1_32) 34 rfl (fun T6 h6 a6 k6 X6 e6 g6 E6 A6 => ?_)
      have g_a6 : n0 ≤ a6 := Nat.le_trans Z0 (Nat.le_of_eq g6.symm)
      have s_a6 : h0.size ≤ a6 := Nat.le_trans (Keep.refl h0 []).1 (Nat.le_of_eq g6.symm)
      have Z6 : n0 ≤ h6.size := Nat.le_trans Z0 E6.1
      have K6 : Keep h0 h6 [] := (Keep.refl h0 []).ext E6
      have V6 : Arv Z h6 a6 k6 .byte (3 : Int32) [(.int (0 : Int32)), (.int (0 : Int32)), (.int (0 : Int32)), (.int (0 : Int32))] (.int (0 : Int32)) := A6.pad (pad_rep [] (.int (0 : Int32)) 4)
      refine w_retA X6 hx hlk hret rfl rfl (dB d1_34) (by decide) (by decide) ?_
      rw [e6]
      exact ⟨a6, k6, (3 : Int32), rfl, by have hw_zz : (3 : Int32).toInt = 3 := (by decide); omega, N0, K6, s_a6, V6⟩
    ·refine w_iconst X0 hx (dB d1_22) 23 rfl (2 : Int32) (by decide) ?_
     refine w_newP X0 hx hZ e0 (aty := .byte) (tw_5 hw) (by decide) 2 (by decide) (by decide) (by decide) (by decide) (dB d1_23) 25 rfl (fun T7 h7 a7 k7 X7 e7 g7 E7 A7 => ?_)
     have g_a7 : n0 ≤ a7 := Nat.le_trans Z0 (Nat.le_of_eq g7.symm)
     have s_a7 : h0.size ≤ a7 := Nat.le_trans (Keep.refl h0 []).1 (Nat.le_of_eq g7.symm)
     have Z7 : n0 ≤ h7.size := Nat.le_trans Z0 E7.1
     have K7 : Keep h0 h7 [] := (Keep.refl h0 []).ext E7
     have V7 : Arv Z h7 a7 k7 .byte (2 : Int32) [(.int (0 : Int32)), (.int (0 : Int32)), (.int (0 : Int32)), (.int (0 : Int32))] (.int (0 : Int32)) := A7.pad (pad_rep [] (.int (0 : Int32)) 4)
     refine w_retA X7 hx hlk hret rfl rfl (dB d1_25) (by decide) (by decide) ?_
     rw [e7]
     exact ⟨a7, k7, (2 : Int32), rfl, by have hw_zz : (2 : Int32).toInt = 2 := (by decide); omega, N0, K7, s_a7, V7⟩
   ·refine w_iconst X0 hx (dB d1_13) 14 rfl (1 : Int32) (by decide) ?_
    refine w_newP X0 hx hZ e0 (aty := .byte) (tw_5 hw) (by decide) 1 (by decide) (by decide) (by decide) (by decide) (dB d1_14) 16 rfl (fun T8 h8 a8 k8 X8 e8 g8 E8 A8 => ?_)
    have g_a8 : n0 ≤ a8 := Nat.le_trans Z0 (Nat.le_of_eq g8.symm)
    have s_a8 : h0.size ≤ a8 := Nat.le_trans (Keep.refl h0 []).1 (Nat.le_of_eq g8.symm)
    have Z8 : n0 ≤ h8.size := Nat.le_trans Z0 E8.1
    have K8 : Keep h0 h8 [] := (Keep.refl h0 []).ext E8
    have V8 : Arv Z h8 a8 k8 .byte (1 : Int32) [(.int (0 : Int32)), (.int (0 : Int32)), (.int (0 : Int32)), (.int (0 : Int32))] (.int (0 : Int32)) := A8.pad (pad_rep [] (.int (0 : Int32)) 4)
    refine w_retA X8 hx hlk hret rfl rfl (dB d1_16) (by decide) (by decide) ?_
    rw [e8]
    exact ⟨a8, k8, (1 : Int32), rfl, by have hw_zz : (1 : Int32).toInt = 1 := (by decide); omega, N0, K8, s_a8, V8⟩
  ·refine w_iconst X0 hx (dB d1_4) 5 rfl (0 : Int32) (by decide) ?_
   refine w_newP X0 hx hZ e0 (aty := .byte) (tw_5 hw) (by decide) 0 (by decide) (by decide) (by decide) (by decide) (dB d1_5) 7 rfl (fun T9 h9 a9 k9 X9 e9 g9 E9 A9 => ?_)
   have g_a9 : n0 ≤ a9 := Nat.le_trans Z0 (Nat.le_of_eq g9.symm)
   have s_a9 : h0.size ≤ a9 := Nat.le_trans (Keep.refl h0 []).1 (Nat.le_of_eq g9.symm)
   have Z9 : n0 ≤ h9.size := Nat.le_trans Z0 E9.1
   have K9 : Keep h0 h9 [] := (Keep.refl h0 []).ext E9
   have V9 : Arv Z h9 a9 k9 .byte (0 : Int32) [(.int (0 : Int32)), (.int (0 : Int32)), (.int (0 : Int32)), (.int (0 : Int32))] (.int (0 : Int32)) := A9.pad (pad_rep [] (.int (0 : Int32)) 4)
   refine w_retA X9 hx hlk hret rfl rfl (dB d1_7) (by decide) (by decide) ?_
   rw [e9]
   exact ⟨a9, k9, (0 : Int32), rfl, by have hw_zz : (0 : Int32).toInt = 0 := (by decide); omega, N0, K9, s_a9, V9⟩
theorem ef_2 (m : MethodId) (x0 : Addr) (x1 : Int32) : entryFrame m #[(.ref x0), (.int x1)] 3 = mkF m 0 #[.val (.ref x0), .val (.int x1), .unset] [] := by first | (simp [entryFrame, mkF, argsToLocals, Value.category]; done) | rfl
def Q2 (Z : State) (a : Addr) (xn : Int32) (kb : ClassId) (zz : Int32) (el0 : Int32) (el1 : Int32) (el2 : Int32) (el3 : Int32) (h0 : Heap) (n0 : Nat) (v : Option Value) (h : Heap) (L : List Loc) : Prop := ∃ z : Int32, v = some (.int z) ∧ ((z.toInt = 3 ∧ 3 ≤ xn.toInt ∧ el0.toInt = -17 ∧ el1.toInt = -69 ∧ el2.toInt = -65) ∨ (z.toInt = 0 ∧ ¬ (3 ≤ xn.toInt ∧ el0.toInt = -17 ∧ el1.toInt = -69 ∧ el2.toInt = -65))) ∧ Fr n0 L ∧ h = h0
set_option maxRecDepth 65536 in
set_option maxHeartbeats 40000000 in
theorem rm2 (l : Launch) (Z : State) (a0 : Array Value) (hw : ∀ d ∈ tables_1, d.before a0 Z = true) (ws : List Jvm.Cond) (a : Addr) (xn : Int32) (kb : ClassId) (zz : Int32) (el0 : Int32) (el1 : Int32) (el2 : Int32) (el3 : Int32) (h0 : Heap) (n0 : Nat) (Z0 : n0 ≤ h0.size) (V_a : Arv Z h0 a kb .byte zz [(.int el0), (.int el1), (.int el2), (.int el3)] (.int (0 : Int32))) (p0 : xn.toInt ≤ zz.toInt) :
    CT l mN_2 prog_28_method_4_code 3 (some .int) ws ({ frames := 0, cells := 0, slots := 0, locals := 0 } : Room) #[(.ref a), (.int xn)] Z h0 (Q2 Z a xn kb zz el0 el1 el2 el3 h0 n0) := by
  refine body_of (plainFor_of_name pn_1) ?_
  intro p e s m below meth c s₁ hx dB hret hlk hml hown0 hnm X0 e0 hZ
  have hown : s.vm.findClass cN_1 = some m.cls := hown0
  have N0 := Fr.nil n0
  rw [ef_2]
  show Wk p e below (FN s (Q2 Z a xn kb zz el0 el1 el2 el3 h0 n0) 0 0) s₁ (mkF m 0 #[.val (.ref a), .val (.int xn), .unset] [])
  have r_xn := rng32 xn
  refine w_iloadN X0 hx xn (dB d2_0) 1 rfl rfl ?_
  refine w_iconst X0 hx (dB d2_1) 2 rfl (3 : Int32) (by decide) ?_
  refine w_icmp_lt X0 hx xn.toInt 3 rfl (by decide) (dB d2_2) 33 5 (fun c10 => ?_) (fun c10 => ?_)
  ·refine w_iconst X0 hx (dB d2_33) 34 rfl (0 : Int32) (by decide) ?_
   refine w_istoreN X0 hx (dB d2_34) 35 rfl #[.val (.ref a), .val (.int xn), .val (.int (0 : Int32))] rfl ?_
   refine w_iloadN X0 hx (0 : Int32) (dB d2_35) 36 rfl rfl ?_
   refine w_if_eq X0 hx 0 (by decide) (dB d2_36) 43 39 (fun c11 => ?_) (fun c11 => ?_)
   ·refine w_iconst X0 hx (dB d2_43) 44 rfl (0 : Int32) (by decide) ?_
    refine w_retI X0 hx hlk hret (dB d2_44) (by decide) (by decide) ?_
    rw [e0]
    exact ⟨(0 : Int32), rfl, by have hz : (0 : Int32).toInt = 0 := (by decide); omega, N0, rfl⟩
   ·exfalso; omega
  ·refine w_aloadN X0 hx (.ref a) (dB d2_5) 6 rfl rfl rfl ?_
   refine w_iconst X0 hx (dB d2_6) 7 rfl (0 : Int32) (by decide) ?_
   refine w_baload X0 hx hZ e0 V_a ⟨by decide, by have hj : (0 : Int32).toInt = 0 := (by decide); omega⟩ (v := (.int el0)) rfl (dB d2_7) 8 rfl ?_
   refine w_bipush X0 hx (dB d2_8) 10 rfl (-17 : Int32) (by decide) ?_
   refine w_icmp_ne X0 hx el0.toInt (-17) rfl (by decide) (dB d2_10) 33 13 (fun c12 => ?_) (fun c12 => ?_)
   ·refine w_iconst X0 hx (dB d2_33) 34 rfl (0 : Int32) (by decide) ?_
    refine w_istoreN X0 hx (dB d2_34) 35 rfl #[.val (.ref a), .val (.int xn), .val (.int (0 : Int32))] rfl ?_
    refine w_iloadN X0 hx (0 : Int32) (dB d2_35) 36 rfl rfl ?_
    refine w_if_eq X0 hx 0 (by decide) (dB d2_36) 43 39 (fun c13 => ?_) (fun c13 => ?_)
    ·refine w_iconst X0 hx (dB d2_43) 44 rfl (0 : Int32) (by decide) ?_
     refine w_retI X0 hx hlk hret (dB d2_44) (by decide) (by decide) ?_
     rw [e0]
     exact ⟨(0 : Int32), rfl, by have hz : (0 : Int32).toInt = 0 := (by decide); omega, N0, rfl⟩
    ·exfalso; omega
   ·refine w_aloadN X0 hx (.ref a) (dB d2_13) 14 rfl rfl rfl ?_
    refine w_iconst X0 hx (dB d2_14) 15 rfl (1 : Int32) (by decide) ?_
    refine w_baload X0 hx hZ e0 V_a ⟨by decide, by have hj : (1 : Int32).toInt = 1 := (by decide); omega⟩ (v := (.int el1)) rfl (dB d2_15) 16 rfl ?_
    refine w_bipush X0 hx (dB d2_16) 18 rfl (-69 : Int32) (by decide) ?_
    refine w_icmp_ne X0 hx el1.toInt (-69) rfl (by decide) (dB d2_18) 33 21 (fun c14 => ?_) (fun c14 => ?_)
    ·refine w_iconst X0 hx (dB d2_33) 34 rfl (0 : Int32) (by decide) ?_
     refine w_istoreN X0 hx (dB d2_34) 35 rfl #[.val (.ref a), .val (.int xn), .val (.int (0 : Int32))] rfl ?_
     refine w_iloadN X0 hx (0 : Int32) (dB d2_35) 36 rfl rfl ?_
     refine w_if_eq X0 hx 0 (by decide) (dB d2_36) 43 39 (fun c15 => ?_) (fun c15 => ?_)
     ·refine w_iconst X0 hx (dB d2_43) 44 rfl (0 : Int32) (by decide) ?_
      refine w_retI X0 hx hlk hret (dB d2_44) (by decide) (by decide) ?_
      rw [e0]
      exact ⟨(0 : Int32), rfl, by have hz : (0 : Int32).toInt = 0 := (by decide); omega, N0, rfl⟩
     ·exfalso; omega
    ·refine w_aloadN X0 hx (.ref a) (dB d2_21) 22 rfl rfl rfl ?_
     refine w_iconst X0 hx (dB d2_22) 23 rfl (2 : Int32) (by decide) ?_
     refine w_baload X0 hx hZ e0 V_a ⟨by decide, by have hj : (2 : Int32).toInt = 2 := (by decide); omega⟩ (v := (.int el2)) rfl (dB d2_23) 24 rfl ?_
     refine w_bipush X0 hx (dB d2_24) 26 rfl (-65 : Int32) (by decide) ?_
     refine w_icmp_ne X0 hx el2.toInt (-65) rfl (by decide) (dB d2_26) 33 29 (fun c16 => ?_) (fun c16 => ?_)
     ·refine w_iconst X0 hx (dB d2_33) 34 rfl (0 : Int32) (by decide) ?_
      refine w_istoreN X0 hx (dB d2_34) 35 rfl #[.val (.ref a), .val (.int xn), .val (.int (0 : Int32))] rfl ?_
      refine w_iloadN X0 hx (0 : Int32) (dB d2_35) 36 rfl rfl ?_
      refine w_if_eq X0 hx 0 (by decide) (dB d2_36) 43 39 (fun c17 => ?_) (fun c17 => ?_)
      ·refine w_iconst X0 hx (dB d2_43) 44 rfl (0 : Int32) (by decide) ?_
       refine w_retI X0 hx hlk hret (dB d2_44) (by decide) (by decide) ?_
       rw [e0]
       exact ⟨(0 : Int32), rfl, by have hz : (0 : Int32).toInt = 0 := (by decide); omega, N0, rfl⟩
      ·exfalso; omega
     ·refine w_iconst X0 hx (dB d2_29) 30 rfl (1 : Int32) (by decide) ?_
      refine w_goto X0 hx (dB d2_30) 34 ?_
      refine w_istoreN X0 hx (dB d2_34) 35 rfl #[.val (.ref a), .val (.int xn), .val (.int (1 : Int32))] rfl ?_
      refine w_iloadN X0 hx (1 : Int32) (dB d2_35) 36 rfl rfl ?_
      refine w_if_eq X0 hx 1 (by decide) (dB d2_36) 43 39 (fun c18 => ?_) (fun c18 => ?_)
      ·exfalso; omega
      ·refine w_iconst X0 hx (dB d2_39) 40 rfl (3 : Int32) (by decide) ?_
       refine w_goto X0 hx (dB d2_40) 44 ?_
       refine w_retI X0 hx hlk hret (dB d2_44) (by decide) (by decide) ?_
       rw [e0]
       exact ⟨(3 : Int32), rfl, by have hz : (3 : Int32).toInt = 3 := (by decide); omega, N0, rfl⟩
theorem ef_0 (m : MethodId) (x0 : Int32) (x1 : Int32) (x2 : Int32) (x3 : Int32) (x4 : Int32) (x5 : Int32) : entryFrame m #[(.int x0), (.int x1), (.int x2), (.int x3), (.int x4), (.int x5)] maxLocals = mkF m 0 #[.val (.int x0), .val (.int x1), .val (.int x2), .val (.int x3), .val (.int x4), .val (.int x5), .unset, .unset, .unset, .unset, .unset, .unset, .unset, .unset, .unset] [] := by first | (simp [entryFrame, mkF, argsToLocals, Value.category, maxLocals]; done) | rfl
def Q0 (Z : State) (xn : Int32) (fl : Int32) (a : Int32) (b : Int32) (xc : Int32) (d : Int32) (h0 : Heap) (n0 : Nat) (v : Option Value) (h : Heap) (L : List Loc) : Prop := v = some (.int 1) ∧ Fr n0 L
set_option maxRecDepth 65536 in
set_option maxHeartbeats 40000000 in
theorem rm0 (l : Launch) (Z : State) (a0 : Array Value) (hw : ∀ d ∈ tables_1, d.before a0 Z = true) (ws : List Jvm.Cond) (xn : Int32) (fl : Int32) (a : Int32) (b : Int32) (xc : Int32) (d : Int32) (h0 : Heap) (n0 : Nat) (Z0 : n0 ≤ h0.size) :
    MetFree l x (head1 (Jvm.Cond.code x code maxLocals ret :: ws) room_1) (fun as_ U => as_ = #[(.int xn), (.int fl), (.int a), (.int b), (.int xc), (.int d)] ∧ Z.Warmed39 U.vm ∧ U.heap = h0) (fun _ _ _ _ _ => True) (fun _ U o U' => ∃ v L, o = .returned v ∧ Q0 Z xn fl a b xc d h0 n0 v U'.heap L ∧ FrameEnd U o U' L 1 4) := by
  refine body_of (plainFor_of_name pn_0) ?_
  intro p e s m below meth c s₁ hx dB hret hlk hml hown0 hnm X0 e0 hZ
  have hown : s.vm.findClass cN_0 = some m.cls := hown0
  have N0 := Fr.nil n0
  rw [ef_0]
  show Wk p e below (FN s (Q0 Z xn fl a b xc d h0 n0) 1 4) s₁ (mkF m 0 #[.val (.int xn), .val (.int fl), .val (.int a), .val (.int b), .val (.int xc), .val (.int d), .unset, .unset, .unset, .unset, .unset, .unset, .unset, .unset, .unset] [])
  have r_xn := rng32 xn
  have r_fl := rng32 fl
  have r_a := rng32 a
  have r_b := rng32 b
  have r_xc := rng32 xc
  have r_d := rng32 d
  refine w_iloadN X0 hx xn (dB at_0) 1 rfl rfl ?_
  refine w_ldc X0 hx hZ hown (tw_0 hw) (dB at_1) 3 rfl ?_
  obtain ⟨v19, e19⟩ : ∃ z : Int32, z = xn &&& (2147483647 : Int32) := ⟨_, rfl⟩
  have n19 : v19.toInt = xn.toInt % 2147483648 := by rw [e19]; exact maskX 31 rfl (by decide) (by decide)
  refine w_iand X0 hx (dB at_3) 4 rfl e19 ?_
  refine w_iconst X0 hx (dB at_4) 5 rfl (5 : Int32) (by decide) ?_
  obtain ⟨v20, e20⟩ : ∃ z : Int32, z = v19 % (5 : Int32) := ⟨_, rfl⟩
  have n20 : v20.toInt = v19.toInt % 5 := by rw [e20]; exact iremX rfl (by decide) (by omega)
  refine w_irem X0 hx (dB at_5) 6 rfl (by decide) e20 ?_
  refine w_istore X0 hx (dB at_6) 8 rfl #[.val (.int xn), .val (.int fl), .val (.int a), .val (.int b), .val (.int xc), .val (.int d), .val (.int v20), .unset, .unset, .unset, .unset, .unset, .unset, .unset, .unset] rfl ?_
  refine w_iloadN X0 hx fl (dB at_8) 9 rfl rfl ?_
  refine w_bipush X0 hx (dB at_9) 11 rfl (8 : Int32) (by decide) ?_
  obtain ⟨v21, e21⟩ : ∃ z : Int32, z = fl &&& (8 : Int32) := ⟨_, rfl⟩
  have n21 : 0 ≤ v21.toInt ∧ v21.toInt ≤ 8 := by rw [e21]; exact c_and fl (8 : Int32) (by decide)
  refine w_iand X0 hx (dB at_11) 12 rfl e21 ?_
  have J22 : ∀ (j22_0 : Int32), (0 ≤ j22_0.toInt ∧ j22_0.toInt ≤ 1) → Wk p e below (FN s (Q0 Z xn fl a b xc d h0 n0) 1 4) s₁ (mkF m 20 #[.val (.int xn), .val (.int fl), .val (.int a), .val (.int b), .val (.int xc), .val (.int d), .val (.int v20), .unset, .unset, .unset, .unset, .unset, .unset, .unset, .unset] [(.int j22_0)]) := by
   intro j22_0 f22
   refine w_istore X0 hx (dB at_20) 22 rfl #[.val (.int xn), .val (.int fl), .val (.int a), .val (.int b), .val (.int xc), .val (.int d), .val (.int v20), .val (.int j22_0), .unset, .unset, .unset, .unset, .unset, .unset, .unset] rfl ?_
   refine w_iloadN X0 hx fl (dB at_22) 23 rfl rfl ?_
   refine w_iconst X0 hx (dB at_23) 24 rfl (1 : Int32) (by decide) ?_
   obtain ⟨v23, e23⟩ : ∃ z : Int32, z = fl &&& (1 : Int32) := ⟨_, rfl⟩
   have n23 : v23.toInt = fl.toInt % 2 := by rw [e23]; exact maskX 1 rfl (by decide) (by decide)
   refine w_iand X0 hx (dB at_24) 25 rfl e23 ?_
   have J24 : ∀ (j24_0 : Int32), (-128 ≤ j24_0.toInt ∧ j24_0.toInt ≤ 127) → Wk p e below (FN s (Q0 Z xn fl a b xc d h0 n0) 1 4) s₁ (mkF m 35 #[.val (.int xn), .val (.int fl), .val (.int a), .val (.int b), .val (.int xc), .val (.int d), .val (.int v20), .val (.int j22_0), .unset, .unset, .unset, .unset, .unset, .unset, .unset] [(.int j24_0)]) := by
    intro j24_0 f24
    refine w_istore X0 hx (dB at_35) 37 rfl #[.val (.int xn), .val (.int fl), .val (.int a), .val (.int b), .val (.int xc), .val (.int d), .val (.int v20), .val (.int j22_0), .val (.int j24_0), .unset, .unset, .unset, .unset, .unset, .unset] rfl ?_
    refine w_iloadN X0 hx fl (dB at_37) 38 rfl rfl ?_
    refine w_iconst X0 hx (dB at_38) 39 rfl (2 : Int32) (by decide) ?_
    obtain ⟨v25, e25⟩ : ∃ z : Int32, z = fl &&& (2 : Int32) := ⟨_, rfl⟩
    have n25 : 0 ≤ v25.toInt ∧ v25.toInt ≤ 2 := by rw [e25]; exact c_and fl (2 : Int32) (by decide)
    refine w_iand X0 hx (dB at_39) 40 rfl e25 ?_
    have J26 : ∀ (j26_0 : Int32), (-128 ≤ j26_0.toInt ∧ j26_0.toInt ≤ 127) → Wk p e below (FN s (Q0 Z xn fl a b xc d h0 n0) 1 4) s₁ (mkF m 50 #[.val (.int xn), .val (.int fl), .val (.int a), .val (.int b), .val (.int xc), .val (.int d), .val (.int v20), .val (.int j22_0), .val (.int j24_0), .unset, .unset, .unset, .unset, .unset, .unset] [(.int j26_0)]) := by
     intro j26_0 f26
     refine w_istore X0 hx (dB at_50) 52 rfl #[.val (.int xn), .val (.int fl), .val (.int a), .val (.int b), .val (.int xc), .val (.int d), .val (.int v20), .val (.int j22_0), .val (.int j24_0), .val (.int j26_0), .unset, .unset, .unset, .unset, .unset] rfl ?_
     refine w_iloadN X0 hx fl (dB at_52) 53 rfl rfl ?_
     refine w_iconst X0 hx (dB at_53) 54 rfl (4 : Int32) (by decide) ?_
     obtain ⟨v27, e27⟩ : ∃ z : Int32, z = fl &&& (4 : Int32) := ⟨_, rfl⟩
     have n27 : 0 ≤ v27.toInt ∧ v27.toInt ≤ 4 := by rw [e27]; exact c_and fl (4 : Int32) (by decide)
     refine w_iand X0 hx (dB at_54) 55 rfl e27 ?_
     have J28 : ∀ (j28_0 : Int32), (-128 ≤ j28_0.toInt ∧ j28_0.toInt ≤ 127) → Wk p e below (FN s (Q0 Z xn fl a b xc d h0 n0) 1 4) s₁ (mkF m 66 #[.val (.int xn), .val (.int fl), .val (.int a), .val (.int b), .val (.int xc), .val (.int d), .val (.int v20), .val (.int j22_0), .val (.int j24_0), .val (.int j26_0), .unset, .unset, .unset, .unset, .unset] [(.int j28_0)]) := by
      intro j28_0 f28
      refine w_istore X0 hx (dB at_66) 68 rfl #[.val (.int xn), .val (.int fl), .val (.int a), .val (.int b), .val (.int xc), .val (.int d), .val (.int v20), .val (.int j22_0), .val (.int j24_0), .val (.int j26_0), .val (.int j28_0), .unset, .unset, .unset, .unset] rfl ?_
      refine w_iload X0 hx d (dB at_68) 70 rfl rfl ?_
      obtain ⟨v29, e29⟩ : ∃ z : Int32, z = d.toInt8.toInt32 := ⟨_, rfl⟩
      have n29 : (v29.toInt - d.toInt) % 256 = 0 ∧ -128 ≤ v29.toInt ∧ v29.toInt < 128 := by rw [e29]; exact i2bX rfl
      refine w_i2b X0 hx (dB at_70) 71 rfl e29 ?_
      refine w_istore X0 hx (dB at_71) 73 rfl #[.val (.int xn), .val (.int fl), .val (.int a), .val (.int b), .val (.int xc), .val (.int d), .val (.int v20), .val (.int j22_0), .val (.int j24_0), .val (.int j26_0), .val (.int j28_0), .val (.int v29), .unset, .unset, .unset] rfl ?_
      refine w_iload X0 hx j22_0 (dB at_73) 75 rfl rfl ?_
      have J30 : ∀ (j30_0 : Int32), (0 ≤ j30_0.toInt ∧ j30_0.toInt ≤ 4 ∧ v20.toInt ≤ j30_0.toInt) → Wk p e below (FN s (Q0 Z xn fl a b xc d h0 n0) 1 4) s₁ (mkF m 84 #[.val (.int xn), .val (.int fl), .val (.int a), .val (.int b), .val (.int xc), .val (.int d), .val (.int v20), .val (.int j22_0), .val (.int j24_0), .val (.int j26_0), .val (.int j28_0), .val (.int v29), .unset, .unset, .unset] [(.int j30_0)]) := by
       intro j30_0 f30
       refine w_callS X0 hx hZ hown e0 (rm1 l Z a0 hw [] j30_0 h0 n0 Z0 (by omega) (by omega)) (tw_1 hw) (tw_2 hw) (tw_3 hw) (tw_4 hw) (by decide) (by rw [hml]; rfl) [(.int j30_0)] [] (lenOf pd_0 rfl) rfl rfl (by decide) 0 rfl (by decide) (by decide) (by decide) (dB at_84) 87 rfl (fun r31 T31 L31 X31 q31 => ?_)
       obtain ⟨bb31, kb31, zz31, rfl, fx31, Nq31, Kq31, sq31_0, G31_0⟩ := q31
       have N31 := Fr.app N0 Nq31
       have g_bb31 : n0 ≤ bb31 := Nat.le_trans Z0 sq31_0
       have s_bb31 : h0.size ≤ bb31 := Nat.le_trans (Keep.refl h0 []).1 sq31_0
       have Z31 : n0 ≤ T31.heap.size := Nat.le_trans Z0 Kq31.1
       have K31 : Keep h0 T31.heap [] := (Keep.refl h0 []).trans Kq31 all0
       dsimp only [Option.toList_some, Option.toList_none, List.cons_append, List.nil_append]
       refine w_astore X31 hx (dB at_87) 89 rfl rfl #[.val (.int xn), .val (.int fl), .val (.int a), .val (.int b), .val (.int xc), .val (.int d), .val (.int v20), .val (.int j22_0), .val (.int j24_0), .val (.int j26_0), .val (.int j28_0), .val (.int v29), .val (.ref bb31), .unset, .unset] rfl ?_
       refine w_aload X31 hx (.ref bb31) (dB at_89) 91 rfl rfl rfl ?_
       refine w_length X31 hx hZ rfl G31_0 (dB at_91) 92 rfl ?_
       refine w_if_le X31 hx zz31.toInt rfl (dB at_92) 101 95 (fun c32 => ?_) (fun c32 => ?_)
       ·refine w_aload X31 hx (.ref bb31) (dB at_101) 103 rfl rfl rfl ?_
        refine w_length X31 hx hZ rfl G31_0 (dB at_103) 104 rfl ?_
        refine w_iconst X31 hx (dB at_104) 105 rfl (1 : Int32) (by decide) ?_
        refine w_icmp_le X31 hx zz31.toInt 1 rfl (by decide) (dB at_105) 114 108 (fun c33 => ?_) (fun c33 => ?_)
        ·refine w_aload X31 hx (.ref bb31) (dB at_114) 116 rfl rfl rfl ?_
         refine w_length X31 hx hZ rfl G31_0 (dB at_116) 117 rfl ?_
         refine w_iconst X31 hx (dB at_117) 118 rfl (2 : Int32) (by decide) ?_
         refine w_icmp_le X31 hx zz31.toInt 2 rfl (by decide) (dB at_118) 127 121 (fun c34 => ?_) (fun c34 => ?_)
         ·refine w_aload X31 hx (.ref bb31) (dB at_127) 129 rfl rfl rfl ?_
          refine w_length X31 hx hZ rfl G31_0 (dB at_129) 130 rfl ?_
          refine w_iconst X31 hx (dB at_130) 131 rfl (3 : Int32) (by decide) ?_
          refine w_icmp_le X31 hx zz31.toInt 3 rfl (by decide) (dB at_131) 140 134 (fun c35 => ?_) (fun c35 => ?_)
          ·refine w_iload X31 hx j24_0 (dB at_140) 142 rfl rfl ?_
           refine w_sipush X31 hx (dB at_142) 145 rfl (255 : Int32) (by decide) ?_
           obtain ⟨v36, e36⟩ : ∃ z : Int32, z = j24_0 &&& (255 : Int32) := ⟨_, rfl⟩
           have n36 : v36.toInt = j24_0.toInt % 256 := by rw [e36]; exact maskX 8 rfl (by decide) (by decide)
           refine w_iand X31 hx (dB at_145) 146 rfl e36 ?_
           refine w_bipush X31 hx (dB at_146) 148 rfl (16 : Int32) (by decide) ?_
           obtain ⟨v37, e37⟩ : ∃ z : Int32, z = v36 <<< ((16 : Int32) &&& 31) := ⟨_, rfl⟩
           have n37 : v37.toInt = v36.toInt * 65536 := by rw [e37]; exact ishlX 16 rfl (by decide) (by omega) (by omega)
           refine w_ishl X31 hx (dB at_148) 149 rfl e37 ?_
           refine w_iload X31 hx j26_0 (dB at_149) 151 rfl rfl ?_
           refine w_sipush X31 hx (dB at_151) 154 rfl (255 : Int32) (by decide) ?_
           obtain ⟨v38, e38⟩ : ∃ z : Int32, z = j26_0 &&& (255 : Int32) := ⟨_, rfl⟩
           have n38 : v38.toInt = j26_0.toInt % 256 := by rw [e38]; exact maskX 8 rfl (by decide) (by decide)
           refine w_iand X31 hx (dB at_154) 155 rfl e38 ?_
           refine w_bipush X31 hx (dB at_155) 157 rfl (8 : Int32) (by decide) ?_
           obtain ⟨v39, e39⟩ : ∃ z : Int32, z = v38 <<< ((8 : Int32) &&& 31) := ⟨_, rfl⟩
           have n39 : v39.toInt = v38.toInt * 256 := by rw [e39]; exact ishlX 8 rfl (by decide) (by omega) (by omega)
           refine w_ishl X31 hx (dB at_157) 158 rfl e39 ?_
           obtain ⟨v40, e40⟩ : ∃ z : Int32, z = v37 ||| v39 := ⟨_, rfl⟩
           have n40 : v40.toInt = v37.toInt + v39.toInt := by rw [e40]; exact orX 16 rfl rfl (by decide) 65536 (by decide) (by omega) (by omega) (by omega) (by omega) (by omega)
           refine w_ior X31 hx (dB at_158) 159 rfl e40 ?_
           refine w_iload X31 hx j28_0 (dB at_159) 161 rfl rfl ?_
           refine w_sipush X31 hx (dB at_161) 164 rfl (255 : Int32) (by decide) ?_
           obtain ⟨v41, e41⟩ : ∃ z : Int32, z = j28_0 &&& (255 : Int32) := ⟨_, rfl⟩
           have n41 : v41.toInt = j28_0.toInt % 256 := by rw [e41]; exact maskX 8 rfl (by decide) (by decide)
           refine w_iand X31 hx (dB at_164) 165 rfl e41 ?_
           obtain ⟨v42, e42⟩ : ∃ z : Int32, z = v40 ||| v41 := ⟨_, rfl⟩
           have n42 : v42.toInt = v40.toInt + v41.toInt := by rw [e42]; exact orX 8 rfl rfl (by decide) 256 (by decide) (by omega) (by omega) (by omega) (by omega) (by omega)
           refine w_ior X31 hx (dB at_165) 166 rfl e42 ?_
           refine w_istore X31 hx (dB at_166) 168 rfl #[.val (.int xn), .val (.int fl), .val (.int a), .val (.int b), .val (.int xc), .val (.int d), .val (.int v20), .val (.int j22_0), .val (.int j24_0), .val (.int j26_0), .val (.int j28_0), .val (.int v29), .val (.ref bb31), .val (.int v42), .unset] rfl ?_
           refine w_iload X31 hx v20 (dB at_168) 170 rfl rfl ?_
           refine w_iconst X31 hx (dB at_170) 171 rfl (3 : Int32) (by decide) ?_
           refine w_icmp_lt X31 hx v20.toInt 3 rfl (by decide) (dB at_171) 185 174 (fun c43 => ?_) (fun c43 => ?_)
           ·refine w_iconst X31 hx (dB at_185) 186 rfl (0 : Int32) (by decide) ?_
            refine w_istore X31 hx (dB at_186) 188 rfl #[.val (.int xn), .val (.int fl), .val (.int a), .val (.int b), .val (.int xc), .val (.int d), .val (.int v20), .val (.int j22_0), .val (.int j24_0), .val (.int j26_0), .val (.int j28_0), .val (.int v29), .val (.ref bb31), .val (.int v42), .val (.int (0 : Int32))] rfl ?_
            refine w_aload X31 hx (.ref bb31) (dB at_188) 190 rfl rfl rfl ?_
            refine w_iload X31 hx v20 (dB at_190) 192 rfl rfl ?_
            refine w_callS X31 hx hZ hown rfl (rm2 l Z a0 hw [] bb31 v20 kb31 zz31 (0 : Int32) (0 : Int32) (0 : Int32) (0 : Int32) T31.heap n0 Z31 G31_0 (by have hl_0 : (0 : Int32).toInt = 0 := (by decide); omega)) (tw_6 hw) (tw_7 hw) (tw_8 hw) (tw_9 hw) (by decide) (by rw [hml]; rfl) [(.ref bb31), (.int v20)] [] (lenOf pd_1 rfl) rfl rfl (by decide) 0 rfl (by decide) (by decide) (by decide) (dB at_192) 195 rfl (fun r44 T44 L44 X44 q44 => ?_)
            obtain ⟨z44, rfl, f44, Nq44, eq44⟩ := q44
            have N44 := Fr.app N31 Nq44
            try simp only [show ((0 : Int32)).toInt = 0 from by decide] at f44
            dsimp only [Option.toList_some, Option.toList_none, List.cons_append, List.nil_append]
            refine w_iload X44 hx (0 : Int32) (dB at_195) 197 rfl rfl ?_
            refine w_icmp_ne X44 hx z44.toInt 0 rfl (by decide) (dB at_197) 204 200 (fun c45 => ?_) (fun c45 => ?_)
            ·refine w_iconst X44 hx (dB at_204) 205 rfl (0 : Int32) (by decide) ?_
             refine w_retN X44 hx hlk (t := .boolean) hret (by simp) (dB at_205) (by decide) (by decide) ?_
             rw [eq44]
             exfalso; omega
            ·refine w_iconst X44 hx (dB at_200) 201 rfl (1 : Int32) (by decide) ?_
             refine w_goto X44 hx (dB at_201) 205 ?_
             refine w_retN X44 hx hlk (t := .boolean) hret (by simp) (dB at_205) (by decide) (by decide) ?_
             rw [eq44]
             exact ⟨rfl, N44⟩
           ·refine w_iload X31 hx v42 (dB at_174) 176 rfl rfl ?_
            refine w_ldc X31 hx hZ hown (tw_10 hw) (dB at_176) 178 rfl ?_
            refine w_icmp_ne X31 hx v42.toInt 15711167 rfl (by decide) (dB at_178) 185 181 (fun c46 => ?_) (fun c46 => ?_)
            ·refine w_iconst X31 hx (dB at_185) 186 rfl (0 : Int32) (by decide) ?_
             refine w_istore X31 hx (dB at_186) 188 rfl #[.val (.int xn), .val (.int fl), .val (.int a), .val (.int b), .val (.int xc), .val (.int d), .val (.int v20), .val (.int j22_0), .val (.int j24_0), .val (.int j26_0), .val (.int j28_0), .val (.int v29), .val (.ref bb31), .val (.int v42), .val (.int (0 : Int32))] rfl ?_
             refine w_aload X31 hx (.ref bb31) (dB at_188) 190 rfl rfl rfl ?_
             refine w_iload X31 hx v20 (dB at_190) 192 rfl rfl ?_
             refine w_callS X31 hx hZ hown rfl (rm2 l Z a0 hw [] bb31 v20 kb31 zz31 (0 : Int32) (0 : Int32) (0 : Int32) (0 : Int32) T31.heap n0 Z31 G31_0 (by have hl_0 : (0 : Int32).toInt = 0 := (by decide); omega)) (tw_6 hw) (tw_7 hw) (tw_8 hw) (tw_9 hw) (by decide) (by rw [hml]; rfl) [(.ref bb31), (.int v20)] [] (lenOf pd_1 rfl) rfl rfl (by decide) 0 rfl (by decide) (by decide) (by decide) (dB at_192) 195 rfl (fun r47 T47 L47 X47 q47 => ?_)
             obtain ⟨z47, rfl, f47, Nq47, eq47⟩ := q47
             have N47 := Fr.app N31 Nq47
             try simp only [show ((0 : Int32)).toInt = 0 from by decide] at f47
             dsimp only [Option.toList_some, Option.toList_none, List.cons_append, List.nil_append]
             refine w_iload X47 hx (0 : Int32) (dB at_195) 197 rfl rfl ?_
             refine w_icmp_ne X47 hx z47.toInt 0 rfl (by decide) (dB at_197) 204 200 (fun c48 => ?_) (fun c48 => ?_)
             ·refine w_iconst X47 hx (dB at_204) 205 rfl (0 : Int32) (by decide) ?_
              refine w_retN X47 hx hlk (t := .boolean) hret (by simp) (dB at_205) (by decide) (by decide) ?_
              rw [eq47]
              exfalso; omega
             ·refine w_iconst X47 hx (dB at_200) 201 rfl (1 : Int32) (by decide) ?_
              refine w_goto X47 hx (dB at_201) 205 ?_
              refine w_retN X47 hx hlk (t := .boolean) hret (by simp) (dB at_205) (by decide) (by decide) ?_
              rw [eq47]
              exact ⟨rfl, N47⟩
            ·refine w_iconst X31 hx (dB at_181) 182 rfl (3 : Int32) (by decide) ?_
             refine w_goto X31 hx (dB at_182) 186 ?_
             refine w_istore X31 hx (dB at_186) 188 rfl #[.val (.int xn), .val (.int fl), .val (.int a), .val (.int b), .val (.int xc), .val (.int d), .val (.int v20), .val (.int j22_0), .val (.int j24_0), .val (.int j26_0), .val (.int j28_0), .val (.int v29), .val (.ref bb31), .val (.int v42), .val (.int (3 : Int32))] rfl ?_
             refine w_aload X31 hx (.ref bb31) (dB at_188) 190 rfl rfl rfl ?_
             refine w_iload X31 hx v20 (dB at_190) 192 rfl rfl ?_
             refine w_callS X31 hx hZ hown rfl (rm2 l Z a0 hw [] bb31 v20 kb31 zz31 (0 : Int32) (0 : Int32) (0 : Int32) (0 : Int32) T31.heap n0 Z31 G31_0 (by have hl_0 : (0 : Int32).toInt = 0 := (by decide); omega)) (tw_6 hw) (tw_7 hw) (tw_8 hw) (tw_9 hw) (by decide) (by rw [hml]; rfl) [(.ref bb31), (.int v20)] [] (lenOf pd_1 rfl) rfl rfl (by decide) 0 rfl (by decide) (by decide) (by decide) (dB at_192) 195 rfl (fun r49 T49 L49 X49 q49 => ?_)
             obtain ⟨z49, rfl, f49, Nq49, eq49⟩ := q49
             have N49 := Fr.app N31 Nq49
             try simp only [show ((0 : Int32)).toInt = 0 from by decide] at f49
             dsimp only [Option.toList_some, Option.toList_none, List.cons_append, List.nil_append]
             refine w_iload X49 hx (3 : Int32) (dB at_195) 197 rfl rfl ?_
             refine w_icmp_ne X49 hx z49.toInt 3 rfl (by decide) (dB at_197) 204 200 (fun c50 => ?_) (fun c50 => ?_)
             ·refine w_iconst X49 hx (dB at_204) 205 rfl (0 : Int32) (by decide) ?_
              refine w_retN X49 hx hlk (t := .boolean) hret (by simp) (dB at_205) (by decide) (by decide) ?_
              rw [eq49]
              exfalso; omega
             ·refine w_iconst X49 hx (dB at_200) 201 rfl (1 : Int32) (by decide) ?_
              refine w_goto X49 hx (dB at_201) 205 ?_
              refine w_retN X49 hx hlk (t := .boolean) hret (by simp) (dB at_205) (by decide) (by decide) ?_
              rw [eq49]
              exact ⟨rfl, N49⟩
          ·exfalso; omega
         ·exfalso; omega
        ·exfalso; omega
       ·refine w_aload X31 hx (.ref bb31) (dB at_95) 97 rfl rfl rfl ?_
        refine w_iconst X31 hx (dB at_97) 98 rfl (0 : Int32) (by decide) ?_
        refine w_iload X31 hx j24_0 (dB at_98) 100 rfl rfl ?_
        refine w_bastore X31 hx hZ rfl G31_0 ⟨by decide, by have hj : (0 : Int32).toInt = 0 := (by decide); omega⟩ 0 (by decide) (show 0 < 4 from (by decide)) (dB at_100) 101 rfl (fun T51 h51 X51 e51 W51 V51 => ?_)
        have b51 : j24_0.toInt8.toInt32 = j24_0 := eqI (byteE rfl (by omega) (by omega))
        rw [b51] at W51 V51
        have F52 : Arv Z h51 bb31 kb31 .byte zz31 [(.int j24_0), (.int (0 : Int32)), (.int (0 : Int32)), (.int (0 : Int32))] (.int (0 : Int32)) := V51
        have Z51 : n0 ≤ h51.size := by rw [W51.size]; exact Z31
        have K51 : Keep h0 h51 [] := K31.wr W51 (Or.inr s_bb31)
        have N51 := Fr.snoc X51 N31 g_bb31
        refine w_aload X51 hx (.ref bb31) (dB at_101) 103 rfl rfl rfl ?_
        refine w_length X51 hx hZ e51 F52 (dB at_103) 104 rfl ?_
        refine w_iconst X51 hx (dB at_104) 105 rfl (1 : Int32) (by decide) ?_
        refine w_icmp_le X51 hx zz31.toInt 1 rfl (by decide) (dB at_105) 114 108 (fun c53 => ?_) (fun c53 => ?_)
        ·refine w_aload X51 hx (.ref bb31) (dB at_114) 116 rfl rfl rfl ?_
         refine w_length X51 hx hZ e51 F52 (dB at_116) 117 rfl ?_
         refine w_iconst X51 hx (dB at_117) 118 rfl (2 : Int32) (by decide) ?_
         refine w_icmp_le X51 hx zz31.toInt 2 rfl (by decide) (dB at_118) 127 121 (fun c54 => ?_) (fun c54 => ?_)
         ·refine w_aload X51 hx (.ref bb31) (dB at_127) 129 rfl rfl rfl ?_
          refine w_length X51 hx hZ e51 F52 (dB at_129) 130 rfl ?_
          refine w_iconst X51 hx (dB at_130) 131 rfl (3 : Int32) (by decide) ?_
          refine w_icmp_le X51 hx zz31.toInt 3 rfl (by decide) (dB at_131) 140 134 (fun c55 => ?_) (fun c55 => ?_)
          ·refine w_iload X51 hx j24_0 (dB at_140) 142 rfl rfl ?_
           refine w_sipush X51 hx (dB at_142) 145 rfl (255 : Int32) (by decide) ?_
           obtain ⟨v56, e56⟩ : ∃ z : Int32, z = j24_0 &&& (255 : Int32) := ⟨_, rfl⟩
           have n56 : v56.toInt = j24_0.toInt % 256 := by rw [e56]; exact maskX 8 rfl (by decide) (by decide)
           refine w_iand X51 hx (dB at_145) 146 rfl e56 ?_
           refine w_bipush X51 hx (dB at_146) 148 rfl (16 : Int32) (by decide) ?_
           obtain ⟨v57, e57⟩ : ∃ z : Int32, z = v56 <<< ((16 : Int32) &&& 31) := ⟨_, rfl⟩
           have n57 : v57.toInt = v56.toInt * 65536 := by rw [e57]; exact ishlX 16 rfl (by decide) (by omega) (by omega)
           refine w_ishl X51 hx (dB at_148) 149 rfl e57 ?_
           refine w_iload X51 hx j26_0 (dB at_149) 151 rfl rfl ?_
           refine w_sipush X51 hx (dB at_151) 154 rfl (255 : Int32) (by decide) ?_
           obtain ⟨v58, e58⟩ : ∃ z : Int32, z = j26_0 &&& (255 : Int32) := ⟨_, rfl⟩
           have n58 : v58.toInt = j26_0.toInt % 256 := by rw [e58]; exact maskX 8 rfl (by decide) (by decide)
           refine w_iand X51 hx (dB at_154) 155 rfl e58 ?_
           refine w_bipush X51 hx (dB at_155) 157 rfl (8 : Int32) (by decide) ?_
           obtain ⟨v59, e59⟩ : ∃ z : Int32, z = v58 <<< ((8 : Int32) &&& 31) := ⟨_, rfl⟩
           have n59 : v59.toInt = v58.toInt * 256 := by rw [e59]; exact ishlX 8 rfl (by decide) (by omega) (by omega)
           refine w_ishl X51 hx (dB at_157) 158 rfl e59 ?_
           obtain ⟨v60, e60⟩ : ∃ z : Int32, z = v57 ||| v59 := ⟨_, rfl⟩
           have n60 : v60.toInt = v57.toInt + v59.toInt := by rw [e60]; exact orX 16 rfl rfl (by decide) 65536 (by decide) (by omega) (by omega) (by omega) (by omega) (by omega)
           refine w_ior X51 hx (dB at_158) 159 rfl e60 ?_
           refine w_iload X51 hx j28_0 (dB at_159) 161 rfl rfl ?_
           refine w_sipush X51 hx (dB at_161) 164 rfl (255 : Int32) (by decide) ?_
           obtain ⟨v61, e61⟩ : ∃ z : Int32, z = j28_0 &&& (255 : Int32) := ⟨_, rfl⟩
           have n61 : v61.toInt = j28_0.toInt % 256 := by rw [e61]; exact maskX 8 rfl (by decide) (by decide)
           refine w_iand X51 hx (dB at_164) 165 rfl e61 ?_
           obtain ⟨v62, e62⟩ : ∃ z : Int32, z = v60 ||| v61 := ⟨_, rfl⟩
           have n62 : v62.toInt = v60.toInt + v61.toInt := by rw [e62]; exact orX 8 rfl rfl (by decide) 256 (by decide) (by omega) (by omega) (by omega) (by omega) (by omega)
           refine w_ior X51 hx (dB at_165) 166 rfl e62 ?_
           refine w_istore X51 hx (dB at_166) 168 rfl #[.val (.int xn), .val (.int fl), .val (.int a), .val (.int b), .val (.int xc), .val (.int d), .val (.int v20), .val (.int j22_0), .val (.int j24_0), .val (.int j26_0), .val (.int j28_0), .val (.int v29), .val (.ref bb31), .val (.int v62), .unset] rfl ?_
           refine w_iload X51 hx v20 (dB at_168) 170 rfl rfl ?_
           refine w_iconst X51 hx (dB at_170) 171 rfl (3 : Int32) (by decide) ?_
           refine w_icmp_lt X51 hx v20.toInt 3 rfl (by decide) (dB at_171) 185 174 (fun c63 => ?_) (fun c63 => ?_)
           ·refine w_iconst X51 hx (dB at_185) 186 rfl (0 : Int32) (by decide) ?_
            refine w_istore X51 hx (dB at_186) 188 rfl #[.val (.int xn), .val (.int fl), .val (.int a), .val (.int b), .val (.int xc), .val (.int d), .val (.int v20), .val (.int j22_0), .val (.int j24_0), .val (.int j26_0), .val (.int j28_0), .val (.int v29), .val (.ref bb31), .val (.int v62), .val (.int (0 : Int32))] rfl ?_
            refine w_aload X51 hx (.ref bb31) (dB at_188) 190 rfl rfl rfl ?_
            refine w_iload X51 hx v20 (dB at_190) 192 rfl rfl ?_
            refine w_callS X51 hx hZ hown e51 (rm2 l Z a0 hw [] bb31 v20 kb31 zz31 j24_0 (0 : Int32) (0 : Int32) (0 : Int32) h51 n0 Z51 F52 (by have hl_0 : (0 : Int32).toInt = 0 := (by decide); omega)) (tw_6 hw) (tw_7 hw) (tw_8 hw) (tw_9 hw) (by decide) (by rw [hml]; rfl) [(.ref bb31), (.int v20)] [] (lenOf pd_1 rfl) rfl rfl (by decide) 0 rfl (by decide) (by decide) (by decide) (dB at_192) 195 rfl (fun r64 T64 L64 X64 q64 => ?_)
            obtain ⟨z64, rfl, f64, Nq64, eq64⟩ := q64
            have N64 := Fr.app N51 Nq64
            try simp only [show ((0 : Int32)).toInt = 0 from by decide] at f64
            dsimp only [Option.toList_some, Option.toList_none, List.cons_append, List.nil_append]
            refine w_iload X64 hx (0 : Int32) (dB at_195) 197 rfl rfl ?_
            refine w_icmp_ne X64 hx z64.toInt 0 rfl (by decide) (dB at_197) 204 200 (fun c65 => ?_) (fun c65 => ?_)
            ·refine w_iconst X64 hx (dB at_204) 205 rfl (0 : Int32) (by decide) ?_
             refine w_retN X64 hx hlk (t := .boolean) hret (by simp) (dB at_205) (by decide) (by decide) ?_
             rw [eq64]
             exfalso; omega
            ·refine w_iconst X64 hx (dB at_200) 201 rfl (1 : Int32) (by decide) ?_
             refine w_goto X64 hx (dB at_201) 205 ?_
             refine w_retN X64 hx hlk (t := .boolean) hret (by simp) (dB at_205) (by decide) (by decide) ?_
             rw [eq64]
             exact ⟨rfl, N64⟩
           ·refine w_iload X51 hx v62 (dB at_174) 176 rfl rfl ?_
            refine w_ldc X51 hx hZ hown (tw_10 hw) (dB at_176) 178 rfl ?_
            refine w_icmp_ne X51 hx v62.toInt 15711167 rfl (by decide) (dB at_178) 185 181 (fun c66 => ?_) (fun c66 => ?_)
            ·refine w_iconst X51 hx (dB at_185) 186 rfl (0 : Int32) (by decide) ?_
             refine w_istore X51 hx (dB at_186) 188 rfl #[.val (.int xn), .val (.int fl), .val (.int a), .val (.int b), .val (.int xc), .val (.int d), .val (.int v20), .val (.int j22_0), .val (.int j24_0), .val (.int j26_0), .val (.int j28_0), .val (.int v29), .val (.ref bb31), .val (.int v62), .val (.int (0 : Int32))] rfl ?_
             refine w_aload X51 hx (.ref bb31) (dB at_188) 190 rfl rfl rfl ?_
             refine w_iload X51 hx v20 (dB at_190) 192 rfl rfl ?_
             refine w_callS X51 hx hZ hown e51 (rm2 l Z a0 hw [] bb31 v20 kb31 zz31 j24_0 (0 : Int32) (0 : Int32) (0 : Int32) h51 n0 Z51 F52 (by have hl_0 : (0 : Int32).toInt = 0 := (by decide); omega)) (tw_6 hw) (tw_7 hw) (tw_8 hw) (tw_9 hw) (by decide) (by rw [hml]; rfl) [(.ref bb31), (.int v20)] [] (lenOf pd_1 rfl) rfl rfl (by decide) 0 rfl (by decide) (by decide) (by decide) (dB at_192) 195 rfl (fun r67 T67 L67 X67 q67 => ?_)
             obtain ⟨z67, rfl, f67, Nq67, eq67⟩ := q67
             have N67 := Fr.app N51 Nq67
             try simp only [show ((0 : Int32)).toInt = 0 from by decide] at f67
             dsimp only [Option.toList_some, Option.toList_none, List.cons_append, List.nil_append]
             refine w_iload X67 hx (0 : Int32) (dB at_195) 197 rfl rfl ?_
             refine w_icmp_ne X67 hx z67.toInt 0 rfl (by decide) (dB at_197) 204 200 (fun c68 => ?_) (fun c68 => ?_)
             ·refine w_iconst X67 hx (dB at_204) 205 rfl (0 : Int32) (by decide) ?_
              refine w_retN X67 hx hlk (t := .boolean) hret (by simp) (dB at_205) (by decide) (by decide) ?_
              rw [eq67]
              exfalso; omega
             ·refine w_iconst X67 hx (dB at_200) 201 rfl (1 : Int32) (by decide) ?_
              refine w_goto X67 hx (dB at_201) 205 ?_
              refine w_retN X67 hx hlk (t := .boolean) hret (by simp) (dB at_205) (by decide) (by decide) ?_
              rw [eq67]
              exact ⟨rfl, N67⟩
            ·refine w_iconst X51 hx (dB at_181) 182 rfl (3 : Int32) (by decide) ?_
             refine w_goto X51 hx (dB at_182) 186 ?_
             refine w_istore X51 hx (dB at_186) 188 rfl #[.val (.int xn), .val (.int fl), .val (.int a), .val (.int b), .val (.int xc), .val (.int d), .val (.int v20), .val (.int j22_0), .val (.int j24_0), .val (.int j26_0), .val (.int j28_0), .val (.int v29), .val (.ref bb31), .val (.int v62), .val (.int (3 : Int32))] rfl ?_
             refine w_aload X51 hx (.ref bb31) (dB at_188) 190 rfl rfl rfl ?_
             refine w_iload X51 hx v20 (dB at_190) 192 rfl rfl ?_
             refine w_callS X51 hx hZ hown e51 (rm2 l Z a0 hw [] bb31 v20 kb31 zz31 j24_0 (0 : Int32) (0 : Int32) (0 : Int32) h51 n0 Z51 F52 (by have hl_0 : (0 : Int32).toInt = 0 := (by decide); omega)) (tw_6 hw) (tw_7 hw) (tw_8 hw) (tw_9 hw) (by decide) (by rw [hml]; rfl) [(.ref bb31), (.int v20)] [] (lenOf pd_1 rfl) rfl rfl (by decide) 0 rfl (by decide) (by decide) (by decide) (dB at_192) 195 rfl (fun r69 T69 L69 X69 q69 => ?_)
             obtain ⟨z69, rfl, f69, Nq69, eq69⟩ := q69
             have N69 := Fr.app N51 Nq69
             try simp only [show ((0 : Int32)).toInt = 0 from by decide] at f69
             dsimp only [Option.toList_some, Option.toList_none, List.cons_append, List.nil_append]
             refine w_iload X69 hx (3 : Int32) (dB at_195) 197 rfl rfl ?_
             refine w_icmp_ne X69 hx z69.toInt 3 rfl (by decide) (dB at_197) 204 200 (fun c70 => ?_) (fun c70 => ?_)
             ·refine w_iconst X69 hx (dB at_204) 205 rfl (0 : Int32) (by decide) ?_
              refine w_retN X69 hx hlk (t := .boolean) hret (by simp) (dB at_205) (by decide) (by decide) ?_
              rw [eq69]
              exfalso; omega
             ·refine w_iconst X69 hx (dB at_200) 201 rfl (1 : Int32) (by decide) ?_
              refine w_goto X69 hx (dB at_201) 205 ?_
              refine w_retN X69 hx hlk (t := .boolean) hret (by simp) (dB at_205) (by decide) (by decide) ?_
              rw [eq69]
              exact ⟨rfl, N69⟩
          ·exfalso; omega
         ·exfalso; omega
        ·refine w_aload X51 hx (.ref bb31) (dB at_108) 110 rfl rfl rfl ?_
         refine w_iconst X51 hx (dB at_110) 111 rfl (1 : Int32) (by decide) ?_
         refine w_iload X51 hx j26_0 (dB at_111) 113 rfl rfl ?_
         refine w_bastore X51 hx hZ e51 F52 ⟨by decide, by have hj : (1 : Int32).toInt = 1 := (by decide); omega⟩ 1 (by decide) (show 1 < 4 from (by decide)) (dB at_113) 114 rfl (fun T71 h71 X71 e71 W71 V71 => ?_)
         have b71 : j26_0.toInt8.toInt32 = j26_0 := eqI (byteE rfl (by omega) (by omega))
         rw [b71] at W71 V71
         have F72 : Arv Z h71 bb31 kb31 .byte zz31 [(.int j24_0), (.int j26_0), (.int (0 : Int32)), (.int (0 : Int32))] (.int (0 : Int32)) := V71
         have Z71 : n0 ≤ h71.size := by rw [W71.size]; exact Z51
         have K71 : Keep h0 h71 [] := K51.wr W71 (Or.inr s_bb31)
         have N71 := Fr.snoc X71 N51 g_bb31
         refine w_aload X71 hx (.ref bb31) (dB at_114) 116 rfl rfl rfl ?_
         refine w_length X71 hx hZ e71 F72 (dB at_116) 117 rfl ?_
         refine w_iconst X71 hx (dB at_117) 118 rfl (2 : Int32) (by decide) ?_
         refine w_icmp_le X71 hx zz31.toInt 2 rfl (by decide) (dB at_118) 127 121 (fun c73 => ?_) (fun c73 => ?_)
         ·refine w_aload X71 hx (.ref bb31) (dB at_127) 129 rfl rfl rfl ?_
          refine w_length X71 hx hZ e71 F72 (dB at_129) 130 rfl ?_
          refine w_iconst X71 hx (dB at_130) 131 rfl (3 : Int32) (by decide) ?_
          refine w_icmp_le X71 hx zz31.toInt 3 rfl (by decide) (dB at_131) 140 134 (fun c74 => ?_) (fun c74 => ?_)
          ·refine w_iload X71 hx j24_0 (dB at_140) 142 rfl rfl ?_
           refine w_sipush X71 hx (dB at_142) 145 rfl (255 : Int32) (by decide) ?_
           obtain ⟨v75, e75⟩ : ∃ z : Int32, z = j24_0 &&& (255 : Int32) := ⟨_, rfl⟩
           have n75 : v75.toInt = j24_0.toInt % 256 := by rw [e75]; exact maskX 8 rfl (by decide) (by decide)
           refine w_iand X71 hx (dB at_145) 146 rfl e75 ?_
           refine w_bipush X71 hx (dB at_146) 148 rfl (16 : Int32) (by decide) ?_
           obtain ⟨v76, e76⟩ : ∃ z : Int32, z = v75 <<< ((16 : Int32) &&& 31) := ⟨_, rfl⟩
           have n76 : v76.toInt = v75.toInt * 65536 := by rw [e76]; exact ishlX 16 rfl (by decide) (by omega) (by omega)
           refine w_ishl X71 hx (dB at_148) 149 rfl e76 ?_
           refine w_iload X71 hx j26_0 (dB at_149) 151 rfl rfl ?_
           refine w_sipush X71 hx (dB at_151) 154 rfl (255 : Int32) (by decide) ?_
           obtain ⟨v77, e77⟩ : ∃ z : Int32, z = j26_0 &&& (255 : Int32) := ⟨_, rfl⟩
           have n77 : v77.toInt = j26_0.toInt % 256 := by rw [e77]; exact maskX 8 rfl (by decide) (by decide)
           refine w_iand X71 hx (dB at_154) 155 rfl e77 ?_
           refine w_bipush X71 hx (dB at_155) 157 rfl (8 : Int32) (by decide) ?_
           obtain ⟨v78, e78⟩ : ∃ z : Int32, z = v77 <<< ((8 : Int32) &&& 31) := ⟨_, rfl⟩
           have n78 : v78.toInt = v77.toInt * 256 := by rw [e78]; exact ishlX 8 rfl (by decide) (by omega) (by omega)
           refine w_ishl X71 hx (dB at_157) 158 rfl e78 ?_
           obtain ⟨v79, e79⟩ : ∃ z : Int32, z = v76 ||| v78 := ⟨_, rfl⟩
           have n79 : v79.toInt = v76.toInt + v78.toInt := by rw [e79]; exact orX 16 rfl rfl (by decide) 65536 (by decide) (by omega) (by omega) (by omega) (by omega) (by omega)
           refine w_ior X71 hx (dB at_158) 159 rfl e79 ?_
           refine w_iload X71 hx j28_0 (dB at_159) 161 rfl rfl ?_
           refine w_sipush X71 hx (dB at_161) 164 rfl (255 : Int32) (by decide) ?_
           obtain ⟨v80, e80⟩ : ∃ z : Int32, z = j28_0 &&& (255 : Int32) := ⟨_, rfl⟩
           have n80 : v80.toInt = j28_0.toInt % 256 := by rw [e80]; exact maskX 8 rfl (by decide) (by decide)
           refine w_iand X71 hx (dB at_164) 165 rfl e80 ?_
           obtain ⟨v81, e81⟩ : ∃ z : Int32, z = v79 ||| v80 := ⟨_, rfl⟩
           have n81 : v81.toInt = v79.toInt + v80.toInt := by rw [e81]; exact orX 8 rfl rfl (by decide) 256 (by decide) (by omega) (by omega) (by omega) (by omega) (by omega)
           refine w_ior X71 hx (dB at_165) 166 rfl e81 ?_
           refine w_istore X71 hx (dB at_166) 168 rfl #[.val (.int xn), .val (.int fl), .val (.int a), .val (.int b), .val (.int xc), .val (.int d), .val (.int v20), .val (.int j22_0), .val (.int j24_0), .val (.int j26_0), .val (.int j28_0), .val (.int v29), .val (.ref bb31), .val (.int v81), .unset] rfl ?_
           refine w_iload X71 hx v20 (dB at_168) 170 rfl rfl ?_
           refine w_iconst X71 hx (dB at_170) 171 rfl (3 : Int32) (by decide) ?_
           refine w_icmp_lt X71 hx v20.toInt 3 rfl (by decide) (dB at_171) 185 174 (fun c82 => ?_) (fun c82 => ?_)
           ·refine w_iconst X71 hx (dB at_185) 186 rfl (0 : Int32) (by decide) ?_
            refine w_istore X71 hx (dB at_186) 188 rfl #[.val (.int xn), .val (.int fl), .val (.int a), .val (.int b), .val (.int xc), .val (.int d), .val (.int v20), .val (.int j22_0), .val (.int j24_0), .val (.int j26_0), .val (.int j28_0), .val (.int v29), .val (.ref bb31), .val (.int v81), .val (.int (0 : Int32))] rfl ?_
            refine w_aload X71 hx (.ref bb31) (dB at_188) 190 rfl rfl rfl ?_
            refine w_iload X71 hx v20 (dB at_190) 192 rfl rfl ?_
            refine w_callS X71 hx hZ hown e71 (rm2 l Z a0 hw [] bb31 v20 kb31 zz31 j24_0 j26_0 (0 : Int32) (0 : Int32) h71 n0 Z71 F72 (by have hl_0 : (0 : Int32).toInt = 0 := (by decide); omega)) (tw_6 hw) (tw_7 hw) (tw_8 hw) (tw_9 hw) (by decide) (by rw [hml]; rfl) [(.ref bb31), (.int v20)] [] (lenOf pd_1 rfl) rfl rfl (by decide) 0 rfl (by decide) (by decide) (by decide) (dB at_192) 195 rfl (fun r83 T83 L83 X83 q83 => ?_)
            obtain ⟨z83, rfl, f83, Nq83, eq83⟩ := q83
            have N83 := Fr.app N71 Nq83
            try simp only [show ((0 : Int32)).toInt = 0 from by decide] at f83
            dsimp only [Option.toList_some, Option.toList_none, List.cons_append, List.nil_append]
            refine w_iload X83 hx (0 : Int32) (dB at_195) 197 rfl rfl ?_
            refine w_icmp_ne X83 hx z83.toInt 0 rfl (by decide) (dB at_197) 204 200 (fun c84 => ?_) (fun c84 => ?_)
            ·refine w_iconst X83 hx (dB at_204) 205 rfl (0 : Int32) (by decide) ?_
             refine w_retN X83 hx hlk (t := .boolean) hret (by simp) (dB at_205) (by decide) (by decide) ?_
             rw [eq83]
             exfalso; omega
            ·refine w_iconst X83 hx (dB at_200) 201 rfl (1 : Int32) (by decide) ?_
             refine w_goto X83 hx (dB at_201) 205 ?_
             refine w_retN X83 hx hlk (t := .boolean) hret (by simp) (dB at_205) (by decide) (by decide) ?_
             rw [eq83]
             exact ⟨rfl, N83⟩
           ·refine w_iload X71 hx v81 (dB at_174) 176 rfl rfl ?_
            refine w_ldc X71 hx hZ hown (tw_10 hw) (dB at_176) 178 rfl ?_
            refine w_icmp_ne X71 hx v81.toInt 15711167 rfl (by decide) (dB at_178) 185 181 (fun c85 => ?_) (fun c85 => ?_)
            ·refine w_iconst X71 hx (dB at_185) 186 rfl (0 : Int32) (by decide) ?_
             refine w_istore X71 hx (dB at_186) 188 rfl #[.val (.int xn), .val (.int fl), .val (.int a), .val (.int b), .val (.int xc), .val (.int d), .val (.int v20), .val (.int j22_0), .val (.int j24_0), .val (.int j26_0), .val (.int j28_0), .val (.int v29), .val (.ref bb31), .val (.int v81), .val (.int (0 : Int32))] rfl ?_
             refine w_aload X71 hx (.ref bb31) (dB at_188) 190 rfl rfl rfl ?_
             refine w_iload X71 hx v20 (dB at_190) 192 rfl rfl ?_
             refine w_callS X71 hx hZ hown e71 (rm2 l Z a0 hw [] bb31 v20 kb31 zz31 j24_0 j26_0 (0 : Int32) (0 : Int32) h71 n0 Z71 F72 (by have hl_0 : (0 : Int32).toInt = 0 := (by decide); omega)) (tw_6 hw) (tw_7 hw) (tw_8 hw) (tw_9 hw) (by decide) (by rw [hml]; rfl) [(.ref bb31), (.int v20)] [] (lenOf pd_1 rfl) rfl rfl (by decide) 0 rfl (by decide) (by decide) (by decide) (dB at_192) 195 rfl (fun r86 T86 L86 X86 q86 => ?_)
             obtain ⟨z86, rfl, f86, Nq86, eq86⟩ := q86
             have N86 := Fr.app N71 Nq86
             try simp only [show ((0 : Int32)).toInt = 0 from by decide] at f86
             dsimp only [Option.toList_some, Option.toList_none, List.cons_append, List.nil_append]
             refine w_iload X86 hx (0 : Int32) (dB at_195) 197 rfl rfl ?_
             refine w_icmp_ne X86 hx z86.toInt 0 rfl (by decide) (dB at_197) 204 200 (fun c87 => ?_) (fun c87 => ?_)
             ·refine w_iconst X86 hx (dB at_204) 205 rfl (0 : Int32) (by decide) ?_
              refine w_retN X86 hx hlk (t := .boolean) hret (by simp) (dB at_205) (by decide) (by decide) ?_
              rw [eq86]
              exfalso; omega
             ·refine w_iconst X86 hx (dB at_200) 201 rfl (1 : Int32) (by decide) ?_
              refine w_goto X86 hx (dB at_201) 205 ?_
              refine w_retN X86 hx hlk (t := .boolean) hret (by simp) (dB at_205) (by decide) (by decide) ?_
              rw [eq86]
              exact ⟨rfl, N86⟩
            ·refine w_iconst X71 hx (dB at_181) 182 rfl (3 : Int32) (by decide) ?_
             refine w_goto X71 hx (dB at_182) 186 ?_
             refine w_istore X71 hx (dB at_186) 188 rfl #[.val (.int xn), .val (.int fl), .val (.int a), .val (.int b), .val (.int xc), .val (.int d), .val (.int v20), .val (.int j22_0), .val (.int j24_0), .val (.int j26_0), .val (.int j28_0), .val (.int v29), .val (.ref bb31), .val (.int v81), .val (.int (3 : Int32))] rfl ?_
             refine w_aload X71 hx (.ref bb31) (dB at_188) 190 rfl rfl rfl ?_
             refine w_iload X71 hx v20 (dB at_190) 192 rfl rfl ?_
             refine w_callS X71 hx hZ hown e71 (rm2 l Z a0 hw [] bb31 v20 kb31 zz31 j24_0 j26_0 (0 : Int32) (0 : Int32) h71 n0 Z71 F72 (by have hl_0 : (0 : Int32).toInt = 0 := (by decide); omega)) (tw_6 hw) (tw_7 hw) (tw_8 hw) (tw_9 hw) (by decide) (by rw [hml]; rfl) [(.ref bb31), (.int v20)] [] (lenOf pd_1 rfl) rfl rfl (by decide) 0 rfl (by decide) (by decide) (by decide) (dB at_192) 195 rfl (fun r88 T88 L88 X88 q88 => ?_)
             obtain ⟨z88, rfl, f88, Nq88, eq88⟩ := q88
             have N88 := Fr.app N71 Nq88
             try simp only [show ((0 : Int32)).toInt = 0 from by decide] at f88
             dsimp only [Option.toList_some, Option.toList_none, List.cons_append, List.nil_append]
             refine w_iload X88 hx (3 : Int32) (dB at_195) 197 rfl rfl ?_
             refine w_icmp_ne X88 hx z88.toInt 3 rfl (by decide) (dB at_197) 204 200 (fun c89 => ?_) (fun c89 => ?_)
             ·refine w_iconst X88 hx (dB at_204) 205 rfl (0 : Int32) (by decide) ?_
              refine w_retN X88 hx hlk (t := .boolean) hret (by simp) (dB at_205) (by decide) (by decide) ?_
              rw [eq88]
              exfalso; omega
             ·refine w_iconst X88 hx (dB at_200) 201 rfl (1 : Int32) (by decide) ?_
              refine w_goto X88 hx (dB at_201) 205 ?_
              refine w_retN X88 hx hlk (t := .boolean) hret (by simp) (dB at_205) (by decide) (by decide) ?_
              rw [eq88]
              exact ⟨rfl, N88⟩
          ·exfalso; omega
         ·refine w_aload X71 hx (.ref bb31) (dB at_121) 123 rfl rfl rfl ?_
          refine w_iconst X71 hx (dB at_123) 124 rfl (2 : Int32) (by decide) ?_
          refine w_iload X71 hx j28_0 (dB at_124) 126 rfl rfl ?_
          refine w_bastore X71 hx hZ e71 F72 ⟨by decide, by have hj : (2 : Int32).toInt = 2 := (by decide); omega⟩ 2 (by decide) (show 2 < 4 from (by decide)) (dB at_126) 127 rfl (fun T90 h90 X90 e90 W90 V90 => ?_)
          have b90 : j28_0.toInt8.toInt32 = j28_0 := eqI (byteE rfl (by omega) (by omega))
          rw [b90] at W90 V90
          have F91 : Arv Z h90 bb31 kb31 .byte zz31 [(.int j24_0), (.int j26_0), (.int j28_0), (.int (0 : Int32))] (.int (0 : Int32)) := V90
          have Z90 : n0 ≤ h90.size := by rw [W90.size]; exact Z71
          have K90 : Keep h0 h90 [] := K71.wr W90 (Or.inr s_bb31)
          have N90 := Fr.snoc X90 N71 g_bb31
          refine w_aload X90 hx (.ref bb31) (dB at_127) 129 rfl rfl rfl ?_
          refine w_length X90 hx hZ e90 F91 (dB at_129) 130 rfl ?_
          refine w_iconst X90 hx (dB at_130) 131 rfl (3 : Int32) (by decide) ?_
          refine w_icmp_le X90 hx zz31.toInt 3 rfl (by decide) (dB at_131) 140 134 (fun c92 => ?_) (fun c92 => ?_)
          ·refine w_iload X90 hx j24_0 (dB at_140) 142 rfl rfl ?_
           refine w_sipush X90 hx (dB at_142) 145 rfl (255 : Int32) (by decide) ?_
           obtain ⟨v93, e93⟩ : ∃ z : Int32, z = j24_0 &&& (255 : Int32) := ⟨_, rfl⟩
           have n93 : v93.toInt = j24_0.toInt % 256 := by rw [e93]; exact maskX 8 rfl (by decide) (by decide)
           refine w_iand X90 hx (dB at_145) 146 rfl e93 ?_
           refine w_bipush X90 hx (dB at_146) 148 rfl (16 : Int32) (by decide) ?_
           obtain ⟨v94, e94⟩ : ∃ z : Int32, z = v93 <<< ((16 : Int32) &&& 31) := ⟨_, rfl⟩
           have n94 : v94.toInt = v93.toInt * 65536 := by rw [e94]; exact ishlX 16 rfl (by decide) (by omega) (by omega)
           refine w_ishl X90 hx (dB at_148) 149 rfl e94 ?_
           refine w_iload X90 hx j26_0 (dB at_149) 151 rfl rfl ?_
           refine w_sipush X90 hx (dB at_151) 154 rfl (255 : Int32) (by decide) ?_
           obtain ⟨v95, e95⟩ : ∃ z : Int32, z = j26_0 &&& (255 : Int32) := ⟨_, rfl⟩
           have n95 : v95.toInt = j26_0.toInt % 256 := by rw [e95]; exact maskX 8 rfl (by decide) (by decide)
           refine w_iand X90 hx (dB at_154) 155 rfl e95 ?_
           refine w_bipush X90 hx (dB at_155) 157 rfl (8 : Int32) (by decide) ?_
           obtain ⟨v96, e96⟩ : ∃ z : Int32, z = v95 <<< ((8 : Int32) &&& 31) := ⟨_, rfl⟩
           have n96 : v96.toInt = v95.toInt * 256 := by rw [e96]; exact ishlX 8 rfl (by decide) (by omega) (by omega)
           refine w_ishl X90 hx (dB at_157) 158 rfl e96 ?_
           obtain ⟨v97, e97⟩ : ∃ z : Int32, z = v94 ||| v96 := ⟨_, rfl⟩
           have n97 : v97.toInt = v94.toInt + v96.toInt := by rw [e97]; exact orX 16 rfl rfl (by decide) 65536 (by decide) (by omega) (by omega) (by omega) (by omega) (by omega)
           refine w_ior X90 hx (dB at_158) 159 rfl e97 ?_
           refine w_iload X90 hx j28_0 (dB at_159) 161 rfl rfl ?_
           refine w_sipush X90 hx (dB at_161) 164 rfl (255 : Int32) (by decide) ?_
           obtain ⟨v98, e98⟩ : ∃ z : Int32, z = j28_0 &&& (255 : Int32) := ⟨_, rfl⟩
           have n98 : v98.toInt = j28_0.toInt % 256 := by rw [e98]; exact maskX 8 rfl (by decide) (by decide)
           refine w_iand X90 hx (dB at_164) 165 rfl e98 ?_
           obtain ⟨v99, e99⟩ : ∃ z : Int32, z = v97 ||| v98 := ⟨_, rfl⟩
           have n99 : v99.toInt = v97.toInt + v98.toInt := by rw [e99]; exact orX 8 rfl rfl (by decide) 256 (by decide) (by omega) (by omega) (by omega) (by omega) (by omega)
           refine w_ior X90 hx (dB at_165) 166 rfl e99 ?_
           refine w_istore X90 hx (dB at_166) 168 rfl #[.val (.int xn), .val (.int fl), .val (.int a), .val (.int b), .val (.int xc), .val (.int d), .val (.int v20), .val (.int j22_0), .val (.int j24_0), .val (.int j26_0), .val (.int j28_0), .val (.int v29), .val (.ref bb31), .val (.int v99), .unset] rfl ?_
           refine w_iload X90 hx v20 (dB at_168) 170 rfl rfl ?_
           refine w_iconst X90 hx (dB at_170) 171 rfl (3 : Int32) (by decide) ?_
           refine w_icmp_lt X90 hx v20.toInt 3 rfl (by decide) (dB at_171) 185 174 (fun c100 => ?_) (fun c100 => ?_)
           ·refine w_iconst X90 hx (dB at_185) 186 rfl (0 : Int32) (by decide) ?_
            refine w_istore X90 hx (dB at_186) 188 rfl #[.val (.int xn), .val (.int fl), .val (.int a), .val (.int b), .val (.int xc), .val (.int d), .val (.int v20), .val (.int j22_0), .val (.int j24_0), .val (.int j26_0), .val (.int j28_0), .val (.int v29), .val (.ref bb31), .val (.int v99), .val (.int (0 : Int32))] rfl ?_
            refine w_aload X90 hx (.ref bb31) (dB at_188) 190 rfl rfl rfl ?_
            refine w_iload X90 hx v20 (dB at_190) 192 rfl rfl ?_
            refine w_callS X90 hx hZ hown e90 (rm2 l Z a0 hw [] bb31 v20 kb31 zz31 j24_0 j26_0 j28_0 (0 : Int32) h90 n0 Z90 F91 (by have hl_0 : (0 : Int32).toInt = 0 := (by decide); omega)) (tw_6 hw) (tw_7 hw) (tw_8 hw) (tw_9 hw) (by decide) (by rw [hml]; rfl) [(.ref bb31), (.int v20)] [] (lenOf pd_1 rfl) rfl rfl (by decide) 0 rfl (by decide) (by decide) (by decide) (dB at_192) 195 rfl (fun r101 T101 L101 X101 q101 => ?_)
            obtain ⟨z101, rfl, f101, Nq101, eq101⟩ := q101
            have N101 := Fr.app N90 Nq101
            try simp only [show ((0 : Int32)).toInt = 0 from by decide] at f101
            dsimp only [Option.toList_some, Option.toList_none, List.cons_append, List.nil_append]
            refine w_iload X101 hx (0 : Int32) (dB at_195) 197 rfl rfl ?_
            refine w_icmp_ne X101 hx z101.toInt 0 rfl (by decide) (dB at_197) 204 200 (fun c102 => ?_) (fun c102 => ?_)
            ·refine w_iconst X101 hx (dB at_204) 205 rfl (0 : Int32) (by decide) ?_
             refine w_retN X101 hx hlk (t := .boolean) hret (by simp) (dB at_205) (by decide) (by decide) ?_
             rw [eq101]
             exfalso; omega
            ·refine w_iconst X101 hx (dB at_200) 201 rfl (1 : Int32) (by decide) ?_
             refine w_goto X101 hx (dB at_201) 205 ?_
             refine w_retN X101 hx hlk (t := .boolean) hret (by simp) (dB at_205) (by decide) (by decide) ?_
             rw [eq101]
             exact ⟨rfl, N101⟩
           ·refine w_iload X90 hx v99 (dB at_174) 176 rfl rfl ?_
            refine w_ldc X90 hx hZ hown (tw_10 hw) (dB at_176) 178 rfl ?_
            refine w_icmp_ne X90 hx v99.toInt 15711167 rfl (by decide) (dB at_178) 185 181 (fun c103 => ?_) (fun c103 => ?_)
            ·refine w_iconst X90 hx (dB at_185) 186 rfl (0 : Int32) (by decide) ?_
             refine w_istore X90 hx (dB at_186) 188 rfl #[.val (.int xn), .val (.int fl), .val (.int a), .val (.int b), .val (.int xc), .val (.int d), .val (.int v20), .val (.int j22_0), .val (.int j24_0), .val (.int j26_0), .val (.int j28_0), .val (.int v29), .val (.ref bb31), .val (.int v99), .val (.int (0 : Int32))] rfl ?_
             refine w_aload X90 hx (.ref bb31) (dB at_188) 190 rfl rfl rfl ?_
             refine w_iload X90 hx v20 (dB at_190) 192 rfl rfl ?_
             refine w_callS X90 hx hZ hown e90 (rm2 l Z a0 hw [] bb31 v20 kb31 zz31 j24_0 j26_0 j28_0 (0 : Int32) h90 n0 Z90 F91 (by have hl_0 : (0 : Int32).toInt = 0 := (by decide); omega)) (tw_6 hw) (tw_7 hw) (tw_8 hw) (tw_9 hw) (by decide) (by rw [hml]; rfl) [(.ref bb31), (.int v20)] [] (lenOf pd_1 rfl) rfl rfl (by decide) 0 rfl (by decide) (by decide) (by decide) (dB at_192) 195 rfl (fun r104 T104 L104 X104 q104 => ?_)
             obtain ⟨z104, rfl, f104, Nq104, eq104⟩ := q104
             have N104 := Fr.app N90 Nq104
             try simp only [show ((0 : Int32)).toInt = 0 from by decide] at f104
             dsimp only [Option.toList_some, Option.toList_none, List.cons_append, List.nil_append]
             refine w_iload X104 hx (0 : Int32) (dB at_195) 197 rfl rfl ?_
             refine w_icmp_ne X104 hx z104.toInt 0 rfl (by decide) (dB at_197) 204 200 (fun c105 => ?_) (fun c105 => ?_)
             ·refine w_iconst X104 hx (dB at_204) 205 rfl (0 : Int32) (by decide) ?_
              refine w_retN X104 hx hlk (t := .boolean) hret (by simp) (dB at_205) (by decide) (by decide) ?_
              rw [eq104]
              exfalso; omega
             ·refine w_iconst X104 hx (dB at_200) 201 rfl (1 : Int32) (by decide) ?_
              refine w_goto X104 hx (dB at_201) 205 ?_
              refine w_retN X104 hx hlk (t := .boolean) hret (by simp) (dB at_205) (by decide) (by decide) ?_
              rw [eq104]
              exact ⟨rfl, N104⟩
            ·refine w_iconst X90 hx (dB at_181) 182 rfl (3 : Int32) (by decide) ?_
             refine w_goto X90 hx (dB at_182) 186 ?_
             refine w_istore X90 hx (dB at_186) 188 rfl #[.val (.int xn), .val (.int fl), .val (.int a), .val (.int b), .val (.int xc), .val (.int d), .val (.int v20), .val (.int j22_0), .val (.int j24_0), .val (.int j26_0), .val (.int j28_0), .val (.int v29), .val (.ref bb31), .val (.int v99), .val (.int (3 : Int32))] rfl ?_
             refine w_aload X90 hx (.ref bb31) (dB at_188) 190 rfl rfl rfl ?_
             refine w_iload X90 hx v20 (dB at_190) 192 rfl rfl ?_
             refine w_callS X90 hx hZ hown e90 (rm2 l Z a0 hw [] bb31 v20 kb31 zz31 j24_0 j26_0 j28_0 (0 : Int32) h90 n0 Z90 F91 (by have hl_0 : (0 : Int32).toInt = 0 := (by decide); omega)) (tw_6 hw) (tw_7 hw) (tw_8 hw) (tw_9 hw) (by decide) (by rw [hml]; rfl) [(.ref bb31), (.int v20)] [] (lenOf pd_1 rfl) rfl rfl (by decide) 0 rfl (by decide) (by decide) (by decide) (dB at_192) 195 rfl (fun r106 T106 L106 X106 q106 => ?_)
             obtain ⟨z106, rfl, f106, Nq106, eq106⟩ := q106
             have N106 := Fr.app N90 Nq106
             try simp only [show ((0 : Int32)).toInt = 0 from by decide] at f106
             dsimp only [Option.toList_some, Option.toList_none, List.cons_append, List.nil_append]
             refine w_iload X106 hx (3 : Int32) (dB at_195) 197 rfl rfl ?_
             refine w_icmp_ne X106 hx z106.toInt 3 rfl (by decide) (dB at_197) 204 200 (fun c107 => ?_) (fun c107 => ?_)
             ·refine w_iconst X106 hx (dB at_204) 205 rfl (0 : Int32) (by decide) ?_
              refine w_retN X106 hx hlk (t := .boolean) hret (by simp) (dB at_205) (by decide) (by decide) ?_
              rw [eq106]
              exfalso; omega
             ·refine w_iconst X106 hx (dB at_200) 201 rfl (1 : Int32) (by decide) ?_
              refine w_goto X106 hx (dB at_201) 205 ?_
              refine w_retN X106 hx hlk (t := .boolean) hret (by simp) (dB at_205) (by decide) (by decide) ?_
              rw [eq106]
              exact ⟨rfl, N106⟩
          ·refine w_aload X90 hx (.ref bb31) (dB at_134) 136 rfl rfl rfl ?_
           refine w_iconst X90 hx (dB at_136) 137 rfl (3 : Int32) (by decide) ?_
           refine w_iload X90 hx v29 (dB at_137) 139 rfl rfl ?_
           refine w_bastore X90 hx hZ e90 F91 ⟨by decide, by have hj : (3 : Int32).toInt = 3 := (by decide); omega⟩ 3 (by decide) (show 3 < 4 from (by decide)) (dB at_139) 140 rfl (fun T108 h108 X108 e108 W108 V108 => ?_)
           have b108 : v29.toInt8.toInt32 = v29 := eqI (byteE rfl (by omega) (by omega))
           rw [b108] at W108 V108
           have F109 : Arv Z h108 bb31 kb31 .byte zz31 [(.int j24_0), (.int j26_0), (.int j28_0), (.int v29)] (.int (0 : Int32)) := V108
           have Z108 : n0 ≤ h108.size := by rw [W108.size]; exact Z90
           have K108 : Keep h0 h108 [] := K90.wr W108 (Or.inr s_bb31)
           have N108 := Fr.snoc X108 N90 g_bb31
           refine w_iload X108 hx j24_0 (dB at_140) 142 rfl rfl ?_
           refine w_sipush X108 hx (dB at_142) 145 rfl (255 : Int32) (by decide) ?_
           obtain ⟨v110, e110⟩ : ∃ z : Int32, z = j24_0 &&& (255 : Int32) := ⟨_, rfl⟩
           have n110 : v110.toInt = j24_0.toInt % 256 := by rw [e110]; exact maskX 8 rfl (by decide) (by decide)
           refine w_iand X108 hx (dB at_145) 146 rfl e110 ?_
           refine w_bipush X108 hx (dB at_146) 148 rfl (16 : Int32) (by decide) ?_
           obtain ⟨v111, e111⟩ : ∃ z : Int32, z = v110 <<< ((16 : Int32) &&& 31) := ⟨_, rfl⟩
           have n111 : v111.toInt = v110.toInt * 65536 := by rw [e111]; exact ishlX 16 rfl (by decide) (by omega) (by omega)
           refine w_ishl X108 hx (dB at_148) 149 rfl e111 ?_
           refine w_iload X108 hx j26_0 (dB at_149) 151 rfl rfl ?_
           refine w_sipush X108 hx (dB at_151) 154 rfl (255 : Int32) (by decide) ?_
           obtain ⟨v112, e112⟩ : ∃ z : Int32, z = j26_0 &&& (255 : Int32) := ⟨_, rfl⟩
           have n112 : v112.toInt = j26_0.toInt % 256 := by rw [e112]; exact maskX 8 rfl (by decide) (by decide)
           refine w_iand X108 hx (dB at_154) 155 rfl e112 ?_
           refine w_bipush X108 hx (dB at_155) 157 rfl (8 : Int32) (by decide) ?_
           obtain ⟨v113, e113⟩ : ∃ z : Int32, z = v112 <<< ((8 : Int32) &&& 31) := ⟨_, rfl⟩
           have n113 : v113.toInt = v112.toInt * 256 := by rw [e113]; exact ishlX 8 rfl (by decide) (by omega) (by omega)
           refine w_ishl X108 hx (dB at_157) 158 rfl e113 ?_
           obtain ⟨v114, e114⟩ : ∃ z : Int32, z = v111 ||| v113 := ⟨_, rfl⟩
           have n114 : v114.toInt = v111.toInt + v113.toInt := by rw [e114]; exact orX 16 rfl rfl (by decide) 65536 (by decide) (by omega) (by omega) (by omega) (by omega) (by omega)
           refine w_ior X108 hx (dB at_158) 159 rfl e114 ?_
           refine w_iload X108 hx j28_0 (dB at_159) 161 rfl rfl ?_
           refine w_sipush X108 hx (dB at_161) 164 rfl (255 : Int32) (by decide) ?_
           obtain ⟨v115, e115⟩ : ∃ z : Int32, z = j28_0 &&& (255 : Int32) := ⟨_, rfl⟩
           have n115 : v115.toInt = j28_0.toInt % 256 := by rw [e115]; exact maskX 8 rfl (by decide) (by decide)
           refine w_iand X108 hx (dB at_164) 165 rfl e115 ?_
           obtain ⟨v116, e116⟩ : ∃ z : Int32, z = v114 ||| v115 := ⟨_, rfl⟩
           have n116 : v116.toInt = v114.toInt + v115.toInt := by rw [e116]; exact orX 8 rfl rfl (by decide) 256 (by decide) (by omega) (by omega) (by omega) (by omega) (by omega)
           refine w_ior X108 hx (dB at_165) 166 rfl e116 ?_
           refine w_istore X108 hx (dB at_166) 168 rfl #[.val (.int xn), .val (.int fl), .val (.int a), .val (.int b), .val (.int xc), .val (.int d), .val (.int v20), .val (.int j22_0), .val (.int j24_0), .val (.int j26_0), .val (.int j28_0), .val (.int v29), .val (.ref bb31), .val (.int v116), .unset] rfl ?_
           refine w_iload X108 hx v20 (dB at_168) 170 rfl rfl ?_
           refine w_iconst X108 hx (dB at_170) 171 rfl (3 : Int32) (by decide) ?_
           refine w_icmp_lt X108 hx v20.toInt 3 rfl (by decide) (dB at_171) 185 174 (fun c117 => ?_) (fun c117 => ?_)
           ·refine w_iconst X108 hx (dB at_185) 186 rfl (0 : Int32) (by decide) ?_
            refine w_istore X108 hx (dB at_186) 188 rfl #[.val (.int xn), .val (.int fl), .val (.int a), .val (.int b), .val (.int xc), .val (.int d), .val (.int v20), .val (.int j22_0), .val (.int j24_0), .val (.int j26_0), .val (.int j28_0), .val (.int v29), .val (.ref bb31), .val (.int v116), .val (.int (0 : Int32))] rfl ?_
            refine w_aload X108 hx (.ref bb31) (dB at_188) 190 rfl rfl rfl ?_
            refine w_iload X108 hx v20 (dB at_190) 192 rfl rfl ?_
            refine w_callS X108 hx hZ hown e108 (rm2 l Z a0 hw [] bb31 v20 kb31 zz31 j24_0 j26_0 j28_0 v29 h108 n0 Z108 F109 (by omega)) (tw_6 hw) (tw_7 hw) (tw_8 hw) (tw_9 hw) (by decide) (by rw [hml]; rfl) [(.ref bb31), (.int v20)] [] (lenOf pd_1 rfl) rfl rfl (by decide) 0 rfl (by decide) (by decide) (by decide) (dB at_192) 195 rfl (fun r118 T118 L118 X118 q118 => ?_)
            obtain ⟨z118, rfl, f118, Nq118, eq118⟩ := q118
            have N118 := Fr.app N108 Nq118
            dsimp only [Option.toList_some, Option.toList_none, List.cons_append, List.nil_append]
            refine w_iload X118 hx (0 : Int32) (dB at_195) 197 rfl rfl ?_
            refine w_icmp_ne X118 hx z118.toInt 0 rfl (by decide) (dB at_197) 204 200 (fun c119 => ?_) (fun c119 => ?_)
            ·refine w_iconst X118 hx (dB at_204) 205 rfl (0 : Int32) (by decide) ?_
             refine w_retN X118 hx hlk (t := .boolean) hret (by simp) (dB at_205) (by decide) (by decide) ?_
             rw [eq118]
             exfalso; omega
            ·refine w_iconst X118 hx (dB at_200) 201 rfl (1 : Int32) (by decide) ?_
             refine w_goto X118 hx (dB at_201) 205 ?_
             refine w_retN X118 hx hlk (t := .boolean) hret (by simp) (dB at_205) (by decide) (by decide) ?_
             rw [eq118]
             exact ⟨rfl, N118⟩
           ·refine w_iload X108 hx v116 (dB at_174) 176 rfl rfl ?_
            refine w_ldc X108 hx hZ hown (tw_10 hw) (dB at_176) 178 rfl ?_
            refine w_icmp_ne X108 hx v116.toInt 15711167 rfl (by decide) (dB at_178) 185 181 (fun c120 => ?_) (fun c120 => ?_)
            ·refine w_iconst X108 hx (dB at_185) 186 rfl (0 : Int32) (by decide) ?_
             refine w_istore X108 hx (dB at_186) 188 rfl #[.val (.int xn), .val (.int fl), .val (.int a), .val (.int b), .val (.int xc), .val (.int d), .val (.int v20), .val (.int j22_0), .val (.int j24_0), .val (.int j26_0), .val (.int j28_0), .val (.int v29), .val (.ref bb31), .val (.int v116), .val (.int (0 : Int32))] rfl ?_
             refine w_aload X108 hx (.ref bb31) (dB at_188) 190 rfl rfl rfl ?_
             refine w_iload X108 hx v20 (dB at_190) 192 rfl rfl ?_
             refine w_callS X108 hx hZ hown e108 (rm2 l Z a0 hw [] bb31 v20 kb31 zz31 j24_0 j26_0 j28_0 v29 h108 n0 Z108 F109 (by omega)) (tw_6 hw) (tw_7 hw) (tw_8 hw) (tw_9 hw) (by decide) (by rw [hml]; rfl) [(.ref bb31), (.int v20)] [] (lenOf pd_1 rfl) rfl rfl (by decide) 0 rfl (by decide) (by decide) (by decide) (dB at_192) 195 rfl (fun r121 T121 L121 X121 q121 => ?_)
             obtain ⟨z121, rfl, f121, Nq121, eq121⟩ := q121
             have N121 := Fr.app N108 Nq121
             dsimp only [Option.toList_some, Option.toList_none, List.cons_append, List.nil_append]
             refine w_iload X121 hx (0 : Int32) (dB at_195) 197 rfl rfl ?_
             refine w_icmp_ne X121 hx z121.toInt 0 rfl (by decide) (dB at_197) 204 200 (fun c122 => ?_) (fun c122 => ?_)
             ·refine w_iconst X121 hx (dB at_204) 205 rfl (0 : Int32) (by decide) ?_
              refine w_retN X121 hx hlk (t := .boolean) hret (by simp) (dB at_205) (by decide) (by decide) ?_
              rw [eq121]
              exfalso; omega
             ·refine w_iconst X121 hx (dB at_200) 201 rfl (1 : Int32) (by decide) ?_
              refine w_goto X121 hx (dB at_201) 205 ?_
              refine w_retN X121 hx hlk (t := .boolean) hret (by simp) (dB at_205) (by decide) (by decide) ?_
              rw [eq121]
              exact ⟨rfl, N121⟩
            ·refine w_iconst X108 hx (dB at_181) 182 rfl (3 : Int32) (by decide) ?_
             refine w_goto X108 hx (dB at_182) 186 ?_
             refine w_istore X108 hx (dB at_186) 188 rfl #[.val (.int xn), .val (.int fl), .val (.int a), .val (.int b), .val (.int xc), .val (.int d), .val (.int v20), .val (.int j22_0), .val (.int j24_0), .val (.int j26_0), .val (.int j28_0), .val (.int v29), .val (.ref bb31), .val (.int v116), .val (.int (3 : Int32))] rfl ?_
             refine w_aload X108 hx (.ref bb31) (dB at_188) 190 rfl rfl rfl ?_
             refine w_iload X108 hx v20 (dB at_190) 192 rfl rfl ?_
             refine w_callS X108 hx hZ hown e108 (rm2 l Z a0 hw [] bb31 v20 kb31 zz31 j24_0 j26_0 j28_0 v29 h108 n0 Z108 F109 (by omega)) (tw_6 hw) (tw_7 hw) (tw_8 hw) (tw_9 hw) (by decide) (by rw [hml]; rfl) [(.ref bb31), (.int v20)] [] (lenOf pd_1 rfl) rfl rfl (by decide) 0 rfl (by decide) (by decide) (by decide) (dB at_192) 195 rfl (fun r123 T123 L123 X123 q123 => ?_)
             obtain ⟨z123, rfl, f123, Nq123, eq123⟩ := q123
             have N123 := Fr.app N108 Nq123
             dsimp only [Option.toList_some, Option.toList_none, List.cons_append, List.nil_append]
             refine w_iload X123 hx (3 : Int32) (dB at_195) 197 rfl rfl ?_
             refine w_icmp_ne X123 hx z123.toInt 3 rfl (by decide) (dB at_197) 204 200 (fun c124 => ?_) (fun c124 => ?_)
             ·refine w_iconst X123 hx (dB at_204) 205 rfl (0 : Int32) (by decide) ?_
              refine w_retN X123 hx hlk (t := .boolean) hret (by simp) (dB at_205) (by decide) (by decide) ?_
              rw [eq123]
              exfalso; omega
             ·refine w_iconst X123 hx (dB at_200) 201 rfl (1 : Int32) (by decide) ?_
              refine w_goto X123 hx (dB at_201) 205 ?_
              refine w_retN X123 hx hlk (t := .boolean) hret (by simp) (dB at_205) (by decide) (by decide) ?_
              rw [eq123]
              exact ⟨rfl, N123⟩
      refine w_if_eq X0 hx j22_0.toInt rfl (dB at_75) 83 78 (fun c125 => ?_) (fun c125 => ?_)
      ·refine w_iconst X0 hx (dB at_83) 84 rfl (4 : Int32) (by decide) ?_
       exact J30 (4 : Int32) (by have hz1 : (4 : Int32).toInt = 4 := (by decide); omega)
      ·refine w_iload X0 hx v20 (dB at_78) 80 rfl rfl ?_
       refine w_goto X0 hx (dB at_80) 84 ?_
       exact J30 v20 (by omega)
     refine w_if_eq X0 hx v27.toInt rfl (dB at_55) 63 58 (fun c126 => ?_) (fun c126 => ?_)
     ·refine w_iload X0 hx xc (dB at_63) 65 rfl rfl ?_
      obtain ⟨v127, e127⟩ : ∃ z : Int32, z = xc.toInt8.toInt32 := ⟨_, rfl⟩
      have n127 : (v127.toInt - xc.toInt) % 256 = 0 ∧ -128 ≤ v127.toInt ∧ v127.toInt < 128 := by rw [e127]; exact i2bX rfl
      refine w_i2b X0 hx (dB at_65) 66 rfl e127 ?_
      exact J28 v127 (by omega)
     ·refine w_bipush X0 hx (dB at_58) 60 rfl (-65 : Int32) (by decide) ?_
      refine w_goto X0 hx (dB at_60) 66 ?_
      exact J28 (-65 : Int32) (by have hz1 : (-65 : Int32).toInt = (-65) := (by decide); omega)
    refine w_if_eq X0 hx v25.toInt rfl (dB at_40) 48 43 (fun c128 => ?_) (fun c128 => ?_)
    ·refine w_iloadN X0 hx b (dB at_48) 49 rfl rfl ?_
     obtain ⟨v129, e129⟩ : ∃ z : Int32, z = b.toInt8.toInt32 := ⟨_, rfl⟩
     have n129 : (v129.toInt - b.toInt) % 256 = 0 ∧ -128 ≤ v129.toInt ∧ v129.toInt < 128 := by rw [e129]; exact i2bX rfl
     refine w_i2b X0 hx (dB at_49) 50 rfl e129 ?_
     exact J26 v129 (by omega)
    ·refine w_bipush X0 hx (dB at_43) 45 rfl (-69 : Int32) (by decide) ?_
     refine w_goto X0 hx (dB at_45) 50 ?_
     exact J26 (-69 : Int32) (by have hz1 : (-69 : Int32).toInt = (-69) := (by decide); omega)
   refine w_if_eq X0 hx v23.toInt rfl (dB at_25) 33 28 (fun c130 => ?_) (fun c130 => ?_)
   ·refine w_iloadN X0 hx a (dB at_33) 34 rfl rfl ?_
    obtain ⟨v131, e131⟩ : ∃ z : Int32, z = a.toInt8.toInt32 := ⟨_, rfl⟩
    have n131 : (v131.toInt - a.toInt) % 256 = 0 ∧ -128 ≤ v131.toInt ∧ v131.toInt < 128 := by rw [e131]; exact i2bX rfl
    refine w_i2b X0 hx (dB at_34) 35 rfl e131 ?_
    exact J24 v131 (by omega)
   ·refine w_bipush X0 hx (dB at_28) 30 rfl (-17 : Int32) (by decide) ?_
    refine w_goto X0 hx (dB at_30) 35 ?_
    exact J24 (-17 : Int32) (by have hz1 : (-17 : Int32).toInt = (-17) := (by decide); omega)
  refine w_if_eq X0 hx v21.toInt rfl (dB at_12) 19 15 (fun c132 => ?_) (fun c132 => ?_)
  ·refine w_iconst X0 hx (dB at_19) 20 rfl (0 : Int32) (by decide) ?_
   exact J22 (0 : Int32) (by have hz1 : (0 : Int32).toInt = 0 := (by decide); omega)
  ·refine w_iconst X0 hx (dB at_15) 16 rfl (1 : Int32) (by decide) ?_
   refine w_goto X0 hx (dB at_16) 20 ?_
   exact J22 (1 : Int32) (by have hz1 : (1 : Int32).toInt = 1 := (by decide); omega)
set_option maxRecDepth 65536 in
set_option maxHeartbeats 40000000 in
theorem comes_1 {Post : Tables → Env → Array Value → State → Outcome → State → Prop} (hpost : ∀ tb e args s v u, (limb_1_1.after args s (.returned v) u = true ∧ limb_1_2.after args s (.returned v) u = true ∧ True) → FrameEnd s (.returned v) u (Jvm.fieldLocs frame_1_writes args s ++ Jvm.arrayLocs frame_1_arrays args s ++ Jvm.staticLocs frame_1_statics s) 16 128 → Post tb e args s (.returned v) u) :
    ArmFor flags0 classFile x code maxLocals ret World_1 tables_1 room_1 Calls_1 rest_1 Pre_1 Post := by
  intro l hfl _ _ p e ha hc hk s m args below hf hA hF happ hP
  obtain ⟨hcalls, hrest, hpre⟩ := hP
  obtain ⟨-, -, -, hnamed, -, -, -, hat⟩ := (Spec.applies_iff hf).mp happ
  obtain ⟨hg, hn⟩ := and_e (Cond.before_iff.mp (show (Jvm.Cond.and given_1 narrow_1).before args s = true from hpre))
  obtain ⟨gg1, gg2⟩ := and_e hg
  obtain ⟨gg3, gg4⟩ := and_e gg2
  obtain ⟨gg5, gg6⟩ := and_e gg4
  obtain ⟨gg7, gg8⟩ := and_e gg6
  obtain ⟨gg9, gg10⟩ := and_e gg8
  obtain ⟨gg11, gg12⟩ := and_e gg10
  obtain ⟨w0, w1, w2, w3, w4, w5, rfl⟩ : ∃ w0 w1 w2 w3 w4 w5 : Value, args = #[w0, w1, w2, w3, w4, w5] := by
    have hs : args.size = 6 := by simpa [Cond.value, given_1] using gg1
    obtain ⟨L⟩ := args
    match L, hs with
    | [w0, w1, w2, w3, w4, w5], _ => exact ⟨w0, w1, w2, w3, w4, w5, rfl⟩
  have hw := fun d (hd : d ∈ tables_1) => atoms_spec (ws := Jvm.Cond.code x code maxLocals ret :: tables_1) hat d (List.mem_cons_of_mem _ hd)
  have hfit : Fit s := fun {y c} hc i hi => by
    obtain ⟨ha, rfl⟩ := Array.getElem?_eq_some_iff.mp hc
    have q := List.all_eq_true.mp ((Array.all_eq_true_iff_forall_mem.mp hF) _ (Array.getElem_mem ha)) i (List.mem_range.mpr hi)
    simpa [Array.getElem?_eq_getElem hi] using q
  obtain ⟨i0, ei0⟩ := is_v gg3
  obtain rfl : w0 = (.int i0) := Option.some.inj ei0
  obtain ⟨i1, ei1⟩ := is_v gg5
  obtain rfl : w1 = (.int i1) := Option.some.inj ei1
  obtain ⟨i2, ei2⟩ := is_v gg7
  obtain rfl : w2 = (.int i2) := Option.some.inj ei2
  obtain ⟨i3, ei3⟩ := is_v gg9
  obtain rfl : w3 = (.int i3) := Option.some.inj ei3
  obtain ⟨i4, ei4⟩ := is_v gg11
  obtain rfl : w4 = (.int i4) := Option.some.inj ei4
  obtain ⟨i5, ei5⟩ := is_v gg12
  obtain rfl : w5 = (.int i5) := Option.some.inj ei5
  obtain ⟨n, o, h1, h2, h3, _, L, rfl, ⟨rfl, N⟩, hq⟩ := rm0 l s _ hw tables_1 i0 i1 i2 i3 i4 i5 s.heap s.heap.size (Nat.le_refl _) p e ha hc hk s m _ below hf ((Spec.applies_iff_loose hf).mp happ).1 ⟨rfl, State.Warmed39.refl s, rfl⟩ trivial
  refine ⟨n, _, h1, h2, h3, hpost _ _ _ _ _ _ ⟨Cond.after_iff.mpr rfl, Cond.after_iff.mpr (eq_i res_at (Term.int_eval (1)) rfl), trivial⟩ ⟨hq.1, hq.2.1, (hq.2.2.sift fun y hy => Or.inr (N y hy)).mono (by decide) (by decide)⟩⟩
theorem main_1_1 : Claimed_1_1 := comes_1 fun _ _ _ _ _ _ h hF => ⟨h.1, hF⟩
theorem main_1_2 : Claimed_1_2 := comes_1 fun _ _ _ _ _ _ h hF => ⟨h.2.1, hF⟩
end Jvm.Pilot.@@N@@
namespace Jvm.Pilot.@@N@@
open Jvm Jvm.ClassFile Sem Op Lib Jvm.Free Jvm.Stand Jvm.Pilot.@@N@@.Jvm.D
/-! MADE BY PROGRAM (witnessworld.py) out of the Statement's table words and the real class files: 9 classes; the members and pool entries that the words name. The judged class is class 1, her method 1. -/
namespace start1
open Jvm.ClassFile
def u (s : String) : CpInfo := .utf8 (stringToUtf16 s)
/-- a pool by its gaps: so many unusable entries, then the entry; so many at the end -/
def gap : Nat → List CpInfo → List CpInfo
  | 0, r => r
  | n + 1, r => .unusable :: gap n r
def poolList (es : List (Nat × CpInfo)) (last : Nat) : List CpInfo := es.foldr (fun e r => gap e.1 (e.2 :: r)) (gap last [])
def pool (es : List (Nat × CpInfo)) (last : Nat) : Array CpInfo := ⟨poolList es last⟩
def fileOf (pool : Array CpInfo) (this : Nat) (attrs : Array Attribute := #[]) (ms : Array MethodInfo := #[]) (fl : Nat := 33) (sup : Nat := 0) (ifs : Array Nat := #[]) (fds : Array FieldInfo := #[]) : ClassFile where
  minorVersion := 0
  majorVersion := 65
  constantPool := pool
  accessFlags := fl
  thisClass := this
  superClass := sup
  interfaces := ifs
  fields := fds
  methods := ms
  attributes := attrs
def plain (name : String) (sup : Option ClassId) : Class where
  name := name
  kind := .ordinary
  loader := none
  accessFlags := 33
  super := sup
  interfaces := #[]
  cf := none
  fields := #[]
  methods := #[]
  instanceTypes := #[]
  staticTypes := #[]
  resolved := #[]
  callSites := []
  init := .initialized
  statics := none
  mirror := none

def pool0 : Array CpInfo := pool [(5, u "<init>"), (0, u "()V"), (1, .class_ 10), (1, u "java/lang/Object")] 113

def k0m0 : Method := { name := "<init>", desc := "()V", sig := { parameters := [], returnType := none }, accessFlags := 1, code := none }
/-- java/lang/Object -/
def k0 : Class := { plain "java/lang/Object" none with
  accessFlags := 33
  interfaces := #[]
  cf := some (fileOf pool0 8 #[] #[{ accessFlags := 1, nameIndex := 5, descriptorIndex := 6, attributes := #[] }] 33 0 #[] #[])
  fields := #[]
  methods := #[k0m0]
  instanceTypes := #[]
  staticTypes := #[]
  resolved := Array.replicate 124 none
  statics := none }

def pool1 : Array CpInfo := pool [(2, .class_ 4), (1, u "java/lang/Object"), (0, u "<init>"), (0, u "()V"), (0, .integer 2147483647), (0, .methodref 9 10), (0, .class_ 11), (0, .nameAndType 12 13), (0, u "com/example/dryope/dryope/text/Utf8TextMarkLengthPinLaw"), (0, u "make"), (0, u "(I)[B"), (0, .integer 15711167), (0, .methodref 16 17), (0, .class_ 18), (0, .nameAndType 19 20), (0, u "com/example/dryope/dryope/text/Utf8Text"), (0, u "markLength"), (0, u "([BI)I"), (2, u "law"), (0, u "(IIIIII)Z")] 5

def k1m0 : Method := { name := "<init>", desc := "()V", sig := { parameters := [], returnType := none }, accessFlags := 2, code := none }
def k1c1 : Code := { maxStack := 3, maxLocals := 15, code := code, exceptionTable := #[], attributes := #[] }
def k1m1 : Method := { name := "law", desc := "(IIIIII)Z", sig := { parameters := [.int, .int, .int, .int, .int, .int], returnType := some .boolean }, accessFlags := 9, code := some k1c1 }
def k1c2 : Code := { maxStack := 2, maxLocals := 1, code := method_3_code, exceptionTable := #[], attributes := #[] }
def k1m2 : Method := { name := "make", desc := "(I)[B", sig := { parameters := [.int], returnType := some (.array .byte) }, accessFlags := 10, code := some k1c2 }
/-- com/example/dryope/dryope/text/Utf8TextMarkLengthPinLaw -/
def k1 : Class := { plain "com/example/dryope/dryope/text/Utf8TextMarkLengthPinLaw" (some 0) with
  accessFlags := 49
  interfaces := #[]
  cf := some (fileOf pool1 9 #[] #[{ accessFlags := 2, nameIndex := 5, descriptorIndex := 6, attributes := #[] }, { accessFlags := 9, nameIndex := 23, descriptorIndex := 24, attributes := #[] }, { accessFlags := 10, nameIndex := 12, descriptorIndex := 13, attributes := #[] }] 49 2 #[] #[])
  fields := #[]
  methods := #[k1m0, k1m1, k1m2]
  instanceTypes := #[]
  staticTypes := #[]
  resolved := Array.replicate 30 none
  statics := none }

def pool2 : Array CpInfo := pool [(2, .class_ 4), (1, u "java/lang/Object"), (0, u "<init>"), (0, u "()V"), (1, .class_ 10), (1, u "com/example/dryope/dryope/text/Utf8Text"), (0, u "markLength"), (0, u "([BI)I"), (108, u "MARK_LENGTH"), (0, u "I"), (2, u "NOT_UTF8"), (0, u "Ljava/lang/String;")] 29

def k2m0 : Method := { name := "<init>", desc := "()V", sig := { parameters := [], returnType := none }, accessFlags := 2, code := none }
def k2c1 : Code := { maxStack := 2, maxLocals := 3, code := prog_28_method_4_code, exceptionTable := #[], attributes := #[] }
def k2m1 : Method := { name := "markLength", desc := "([BI)I", sig := { parameters := [(.array .byte), .int], returnType := some .int }, accessFlags := 8, code := some k2c1 }
/-- com/example/dryope/dryope/text/Utf8Text -/
def k2 : Class := { plain "com/example/dryope/dryope/text/Utf8Text" (some 0) with
  accessFlags := 49
  interfaces := #[]
  cf := some (fileOf pool2 8 #[] #[{ accessFlags := 2, nameIndex := 5, descriptorIndex := 6, attributes := #[] }, { accessFlags := 8, nameIndex := 11, descriptorIndex := 12, attributes := #[] }] 49 2 #[] #[{ accessFlags := 24, nameIndex := 121, descriptorIndex := 122, attributes := #[] }, { accessFlags := 24, nameIndex := 125, descriptorIndex := 126, attributes := #[] }])
  fields := #[{ name := "MARK_LENGTH", type := .int, accessFlags := 24, slot := 0, constantValue := 0 }, { name := "NOT_UTF8", type := (.object "java/lang/String"), accessFlags := 24, slot := 1, constantValue := 0 }]
  methods := #[k2m0, k2m1]
  instanceTypes := #[]
  staticTypes := #[.int, (.object "java/lang/String")]
  resolved := Array.replicate 156 none
  statics := none }

def pool3 : Array CpInfo := pool [(1, u "java/lang/Cloneable"), (0, .class_ 1), (0, u "java/lang/Object"), (0, .class_ 3)] 3

/-- java/lang/Cloneable -/
def k3 : Class := { plain "java/lang/Cloneable" (some 0) with
  accessFlags := 1537
  interfaces := #[]
  cf := some (fileOf pool3 2 #[] #[] 1537 4 #[] #[])
  fields := #[]
  methods := #[]
  instanceTypes := #[]
  staticTypes := #[]
  resolved := Array.replicate 8 none
  statics := none }

def pool4 : Array CpInfo := pool [(1, u "java/io/Serializable"), (0, .class_ 1), (0, u "java/lang/Object"), (0, .class_ 3)] 3

/-- java/io/Serializable -/
def k4 : Class := { plain "java/io/Serializable" (some 0) with
  accessFlags := 1537
  interfaces := #[]
  cf := some (fileOf pool4 2 #[] #[] 1537 4 #[] #[])
  fields := #[]
  methods := #[]
  instanceTypes := #[]
  staticTypes := #[]
  resolved := Array.replicate 8 none
  statics := none }

/-- the primitive byte -/
def k5 : Class := { plain "byte" none with kind := .primitive 'B', accessFlags := 0x411 }
/-- [B -/
def k6 : Class := { plain "[B" (some 0) with kind := .array 5 .byte, interfaces := #[3, 4], accessFlags := 1041 }

/-- the primitive int -/
def k7 : Class := { plain "int" none with kind := .primitive 'I', accessFlags := 0x411 }
/-- [I -/
def k8 : Class := { plain "[I" (some 0) with kind := .array 7 .int, interfaces := #[3, 4], accessFlags := 1041 }

def heap : Heap := #[]
def classes : Array Class := #[k0, k1, k2, k3, k4, k5, k6, k7, k8]
def interned : List (Array UInt16 × Addr) := []
def slotsUsed : Nat := 0
def theMethod : MethodId := ⟨1, 1⟩
def args0 : Array Value := #[.int 5, .int 7, .int 1, .int 2, .int 3, .int 4]
def aboutOver (below : List Frame) : State where
  vm := { classes := classes, interned := interned.toArray }
  heap := heap
  slotsUsed := slotsUsed
  threads := #[{ frames := .invoking theMethod args0 :: below }]
def below0 : List Frame := [.native { method := ⟨0, 0⟩, args := #[] }]
def about1 : State := aboutOver below0
def p0 : Program := .bare "" "" ""
def e0 : Env := launch0.env 0 0 0
theorem w_frames : about1.frames = Frame.invoking theMethod args0 :: below0 := rfl
set_option maxRecDepth 65536 in
theorem w_args : argsFit about1.vm theMethod args0 = true := by decide +kernel
set_option maxRecDepth 65536 in
theorem w_heap : heapFits about1 = true := by decide +kernel
set_option maxRecDepth 65536 in
theorem w_runnable : about1.curStatus? = some .runnable := by decide +kernel
set_option maxRecDepth 65536 in
theorem w_alone : about1.alone = true := by decide +kernel
set_option maxRecDepth 65536 in
theorem w_named : about1.methodNamed? x = some theMethod := by decide +kernel
set_option maxRecDepth 65536 in
theorem w_hears : about1.hears theMethod below0 = true := by decide +kernel
set_option maxRecDepth 65536 in
theorem w_ripe : about1.ripe theMethod args0 below0 = true := by decide +kernel
theorem w_running : about1.status = .running := rfl
set_option maxRecDepth 65536 in
theorem w_room : about1.hasRoom e0.platform room_1 = true :=
  launch0.hasRoom_least _ room_1 (by decide +kernel) (by decide +kernel) (by decide +kernel) (by decide +kernel) (by decide +kernel) (by decide +kernel)
theorem allAtoms_all (ts : List Jvm.Cond) (a : Array Jvm.Value) (st : Jvm.State) : (allAtoms ts).before a st = ts.all (fun c => c.before a st) := by
  induction ts with
  | nil => rfl
  | cons c t ih =>
    show (Jvm.Cond.and c (allAtoms t)).before a st = _
    rw [Jvm.Cond.before_and, ih, List.all_cons]
def words1 : List Jvm.Cond := Jvm.Cond.code x code maxLocals ret :: tables_1
/-- a 'code' word, met by the world's own term for the bytes: nothing is compared byte by byte -/
theorem code_word {y : MethodName} {bytes : ByteArray} {mx : Nat} {rt : Option FieldType} {a : Array Value} {s : State} {m : MethodId} {meth : Method} {c : Code} (h1 : s.methodNamed? y = some m) (h2 : s.vm.method? m = some meth) (h3 : meth.code = some c) (h4 : c.code = bytes)
    (h5 : (c.maxLocals == mx && c.exceptionTable.isEmpty && decide (c.maxStack ≤ mostOperands) && decide (meth.sig.returnType = rt) && !meth.locks && decide (parseMethodDescriptor y.desc = some meth.sig)) = true) : (Jvm.Cond.code y bytes mx rt).before a s = true := by
  simp only [Bool.and_eq_true, beq_iff_eq, Bool.not_eq_true', decide_eq_true_eq] at h5
  obtain ⟨⟨⟨⟨⟨g1, g2⟩, g3⟩, g4⟩, g5⟩, g6⟩ := h5
  simp [Cond.before, Cond.holds, Cond.value, h1, h2, h3, h4, g1, g2, g3, g4, g5, g6]
def isCode : Jvm.Cond → Bool
  | .code _ _ _ _ => true
  | _ => false
theorem all_split {L : List Jvm.Cond} {P : Jvm.Cond → Bool} (h1 : L.all (fun c => isCode c || P c) = true) (h2 : ∀ c ∈ L.filter isCode, P c = true) : L.all P = true := by
  refine List.all_eq_true.mpr fun c hc => ?_
  have h := List.all_eq_true.mp h1 c hc
  rcases Bool.eq_false_or_eq_true (isCode c) with hi | hi
  · exact h2 c (List.mem_filter.mpr ⟨hc, hi⟩)
  · simpa [hi] using h
set_option maxRecDepth 65536 in
theorem w_c0 : (Jvm.Cond.code x code maxLocals ret).before args0 about1 = true := code_word (m := ⟨1, 1⟩) (meth := k1m1) (c := k1c1) (by decide +kernel) rfl rfl rfl (by decide +kernel)
set_option maxRecDepth 65536 in
theorem w_c1 : (Jvm.Cond.code ({ cls := "com/example/dryope/dryope/text/Utf8TextMarkLengthPinLaw", name := "make", desc := "(I)[B" } : Jvm.MethodName) method_3_code (1 : Nat) (Option.some (Jvm.ClassFile.FieldType.array Jvm.ClassFile.FieldType.byte))).before args0 about1 = true := code_word (m := ⟨1, 2⟩) (meth := k1m2) (c := k1c2) (by decide +kernel) rfl rfl rfl (by decide +kernel)
set_option maxRecDepth 65536 in
theorem w_c2 : (Jvm.Cond.code ({ cls := "com/example/dryope/dryope/text/Utf8Text", name := "markLength", desc := "([BI)I" } : Jvm.MethodName) prog_28_method_4_code (3 : Nat) (Option.some Jvm.ClassFile.FieldType.int)).before args0 about1 = true := code_word (m := ⟨2, 1⟩) (meth := k2m1) (c := k2c1) (by decide +kernel) rfl rfl rfl (by decide +kernel)
def codes1 : List Jvm.Cond := [Jvm.Cond.code x code maxLocals ret, Jvm.Cond.code ({ cls := "com/example/dryope/dryope/text/Utf8TextMarkLengthPinLaw", name := "make", desc := "(I)[B" } : Jvm.MethodName) method_3_code (1 : Nat) (Option.some (Jvm.ClassFile.FieldType.array Jvm.ClassFile.FieldType.byte)), Jvm.Cond.code ({ cls := "com/example/dryope/dryope/text/Utf8Text", name := "markLength", desc := "([BI)I" } : Jvm.MethodName) prog_28_method_4_code (3 : Nat) (Option.some Jvm.ClassFile.FieldType.int)]
set_option maxRecDepth 65536 in
theorem codes_eq : words1.filter isCode = codes1 := rfl
theorem w_codes : ∀ c ∈ words1.filter isCode, c.before args0 about1 = true := by
  rw [codes_eq]
  intro c hc
  simp only [codes1, List.mem_cons, List.not_mem_nil, or_false] at hc
  rcases hc with rfl | rfl | rfl
  · exact w_c0
  · exact w_c1
  · exact w_c2
set_option maxRecDepth 65536 in
theorem w_t1 : words1.all (fun c => isCode c || c.before args0 about1) = true := by decide +kernel
theorem w_tables : (allAtoms (Jvm.Cond.code x code maxLocals ret :: tables_1)).before args0 about1 = true := by
  rw [allAtoms_all]
  show words1.all (fun c => c.before args0 about1) = true
  refine all_split ?_ w_codes
  rw [w_t1]
set_option maxRecDepth 65536 in
theorem w_case : (Jvm.Cond.and given_1 narrow_1).before args0 about1 = true := by decide +kernel
theorem w_applies : (headSpec (Jvm.Cond.code x code maxLocals ret :: tables_1) room_1).applies x e0.platform about1 = true :=
  (Spec.applies_iff w_frames).mpr ⟨w_running, w_runnable, w_alone, w_named, w_hears, w_ripe, w_room, w_tables⟩
theorem atStart : AtStart classFile x code maxLocals ret World_1 tables_1 room_1 Calls_1 rest_1 Pre_1 launch0 p0 e0 about1 theMethod args0 below0 :=
  ⟨lists_1, trivial, launch0.admits_env _ _ _, launch0.least_env, fairChoices_fair.cas, fairChoices_fair.clock, w_frames, w_args, w_heap, w_applies, trivial, trivial, w_case⟩
end start1
theorem witness_1 : WitnessClaimed_1 := ⟨start1.p0, start1.e0, start1.about1, start1.theMethod, start1.args0, start1.below0, start1.atStart⟩
end Jvm.Pilot.@@N@@
