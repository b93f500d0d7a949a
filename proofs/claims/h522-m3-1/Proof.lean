import JvmDerived
import JvmDerived.Pilot.@@N@@Statement
import JvmDerived.Pilot.@@N@@Code
set_option linter.unusedVariables false
set_option linter.unusedSimpArgs false
namespace Jvm.Own
open Sem ClassFile Op Lib Jvm.Stand Jvm.Free Jvm.LawKit Jvm.RoadKit
/-- from here the run goes on to a return that the contract allows -/
def Wk (p : Program) (e : Env) (below : List Frame) (F : Outcome → State → Prop) (T : State) (g : JFrame) : Prop :=
  ∃ s₂ o, Steps p.tables e below (T.setTop g) s₂ ∧ s₂.status = .running ∧ Ended s₂ below o ∧ F o s₂
abbrev FN (s : State) (Q : Option Value → Heap → List Loc → Prop) (kc ks : Nat) : Outcome → State → Prop := fun o s₂ => ∃ v L, o = .returned v ∧ Q v s₂.heap L ∧ FrameEnd s o s₂ L kc ks
section Walk
variable {p : Program} {l : Launch} {e : Env} {R : Room} {s : State} {m : MethodId} {args : Array Value} {below : List Frame} {meth : Method} {c : Code} {T : State} {locs : List Loc} {cells slots : Nat} {Q : Option Value → Heap → List Loc → Prop} {Fe : Outcome → State → Prop} {kc ks pc : Nat} {Ls : Array Slot} {S : List Value} {Z : State} {a0 : Array Value} {h : Heap}
theorem Wk.step {T' : State} {g g' : JFrame} (h : Wk p e below Fe T' g') (st : ∀ t, Steps p.tables e below (T'.setTop g') t → Steps p.tables e below (T.setTop g) t) : Wk p e below Fe T g := by
  obtain ⟨s₂, o, h1, h2⟩ := h
  exact ⟨s₂, o, st _ h1, h2⟩
theorem Wk.come {T' : State} {g g' : JFrame} (h : Wk p e below Fe T' g') (st : Steps p.tables e below (T.setTop g) (T'.setTop g')) : Wk p e below Fe T g := h.step fun _ k => st.trans k
theorem w_iload (X : Stand p l e R s m args below meth c T locs cells slots) (hx : p.tables.exec = Jvm.exec) {k : Nat} (v : Int32) (hd : decode c.code pc = .ok (.iload k, 2)) (pc' : Nat) (hp : pc + 2 = pc') (hl : Ls[k]? = some (.val (.int v))) (h : Wk p e below Fe T (mkF m pc' Ls (.int v :: S))) : Wk p e below Fe T (mkF m pc Ls S) := by
  subst hp; exact h.step fun _ k => XS.iload X.here hx rfl hd hl k
theorem w_iloadN (X : Stand p l e R s m args below meth c T locs cells slots) (hx : p.tables.exec = Jvm.exec) {k : Fin 4} (v : Int32) (hd : decode c.code pc = .ok (.iload_n k, 1)) (pc' : Nat) (hp : pc + 1 = pc') (hl : Ls[k.val]? = some (.val (.int v))) (h : Wk p e below Fe T (mkF m pc' Ls (.int v :: S))) : Wk p e below Fe T (mkF m pc Ls S) := by
  subst hp; exact h.step fun _ k => XS.iloadN X.here hx rfl hd hl k
theorem w_aloadN (X : Stand p l e R s m args below meth c T locs cells slots) (hx : p.tables.exec = Jvm.exec) {k : Fin 4} (v : Value) (hd : decode c.code pc = .ok (.aload_n k, 1)) (pc' : Nat) (hp : pc + 1 = pc') (hl : Ls[k.val]? = some (.val v)) (hv : v.isRef = true) (h : Wk p e below Fe T (mkF m pc' Ls (v :: S))) : Wk p e below Fe T (mkF m pc Ls S) := by
  subst hp; exact h.step fun _ k => XS.aloadN X.here hx rfl hd hl hv k
theorem w_istore (X : Stand p l e R s m args below meth c T locs cells slots) (hx : p.tables.exec = Jvm.exec) {k : Nat} {x : Int32} (hd : decode c.code pc = .ok (.istore k, 2)) (pc' : Nat) (hp : pc + 2 = pc') (l' : Array Slot) (hl : storeLocals Ls k (.int x) = some l') (h : Wk p e below Fe T (mkF m pc' l' S)) : Wk p e below Fe T (mkF m pc Ls (.int x :: S)) := by
  subst hp; exact h.step fun _ k => XS.istore X.here hx rfl hd rfl hl k
theorem w_astoreN (X : Stand p l e R s m args below meth c T locs cells slots) (hx : p.tables.exec = Jvm.exec) {k : Fin 4} {x : Value} (hd : decode c.code pc = .ok (.astore_n k, 1)) (pc' : Nat) (hp : pc + 1 = pc') (hv : x.isRef = true) (l' : Array Slot) (hl : storeLocals Ls k.val x = some l') (h : Wk p e below Fe T (mkF m pc' l' S)) : Wk p e below Fe T (mkF m pc Ls (x :: S)) := by
  subst hp; exact h.step fun _ k => XS.astoreN X.here hx rfl hd rfl hv hl k
theorem w_iconst (X : Stand p l e R s m args below meth c T locs cells slots) (hx : p.tables.exec = Jvm.exec) {i : Int} (hd : decode c.code pc = .ok (.iconst i, 1)) (pc' : Nat) (hp : pc + 1 = pc') (z : Int32) (hz : Int32.ofInt i = z) (h : Wk p e below Fe T (mkF m pc' Ls (.int z :: S))) : Wk p e below Fe T (mkF m pc Ls S) := by
  subst hp hz; exact h.step fun _ k => XS.iconst X.here hx rfl hd k
theorem w_bipush (X : Stand p l e R s m args below meth c T locs cells slots) (hx : p.tables.exec = Jvm.exec) {i : Int} (hd : decode c.code pc = .ok (.bipush i, 2)) (pc' : Nat) (hp : pc + 2 = pc') (z : Int32) (hz : (Int8.ofInt i).toInt32 = z) (h : Wk p e below Fe T (mkF m pc' Ls (.int z :: S))) : Wk p e below Fe T (mkF m pc Ls S) := by
  subst hp hz; exact h.step fun _ k => XS.bipush X.here hx rfl hd k
theorem w_ldc (X : Stand p l e R s m args below meth c T locs cells slots) (hx : p.tables.exec = Jvm.exec) (hZ : Z.Warmed39 s.vm) {own : String} {index : Nat} {v : Int32} (hown : s.vm.findClass own = some m.cls) (w : (Cond.constant own index v).before a0 Z = true) (hd : decode c.code pc = .ok (.ldc index, 2)) (pc' : Nat) (hp : pc + 2 = pc') (h : Wk p e below Fe T (mkF m pc' Ls (.int v :: S))) : Wk p e below Fe T (mkF m pc Ls S) := by
  subst hp; exact h.step fun _ k => X.ldcInt hx hown (mvT hZ w) (g := mkF m pc Ls S) rfl hd _ k
theorem w_ldcw (X : Stand p l e R s m args below meth c T locs cells slots) (hx : p.tables.exec = Jvm.exec) (hZ : Z.Warmed39 s.vm) {own : String} {index : Nat} {v : Int32} (hown : s.vm.findClass own = some m.cls) (w : (Cond.constant own index v).before a0 Z = true) (hd : decode c.code pc = .ok (.ldc_w index, 3)) (pc' : Nat) (hp : pc + 3 = pc') (h : Wk p e below Fe T (mkF m pc' Ls (.int v :: S))) : Wk p e below Fe T (mkF m pc Ls S) := by
  subst hp; exact h.step fun _ k => X.ldcwInt hx hown (mvT hZ w) (g := mkF m pc Ls S) rfl hd _ k
theorem w_iadd (X : Stand p l e R s m args below meth c T locs cells slots) (hx : p.tables.exec = Jvm.exec) {x y : Int32} (hd : decode c.code pc = .ok (.iadd, 1)) (pc' : Nat) (hp : pc + 1 = pc') {z : Int32} (hz : z = x + y) (h : Wk p e below Fe T (mkF m pc' Ls (.int z :: S))) : Wk p e below Fe T (mkF m pc Ls (.int y :: .int x :: S)) := by
  subst hp hz; exact h.step fun _ k => XS.iadd X.here hx rfl hd rfl k
theorem w_isub (X : Stand p l e R s m args below meth c T locs cells slots) (hx : p.tables.exec = Jvm.exec) {x y : Int32} (hd : decode c.code pc = .ok (.isub, 1)) (pc' : Nat) (hp : pc + 1 = pc') {z : Int32} (hz : z = x - y) (h : Wk p e below Fe T (mkF m pc' Ls (.int z :: S))) : Wk p e below Fe T (mkF m pc Ls (.int y :: .int x :: S)) := by
  subst hp hz; exact h.step fun _ k => XS.isub X.here hx rfl hd rfl k
theorem w_iand (X : Stand p l e R s m args below meth c T locs cells slots) (hx : p.tables.exec = Jvm.exec) {x y : Int32} (hd : decode c.code pc = .ok (.iand, 1)) (pc' : Nat) (hp : pc + 1 = pc') {z : Int32} (hz : z = x &&& y) (h : Wk p e below Fe T (mkF m pc' Ls (.int z :: S))) : Wk p e below Fe T (mkF m pc Ls (.int y :: .int x :: S)) := by
  subst hp hz; exact h.step fun _ k => XS.iand X.here hx rfl hd rfl k
theorem w_iushr (X : Stand p l e R s m args below meth c T locs cells slots) (hx : p.tables.exec = Jvm.exec) {x y : Int32} (hd : decode c.code pc = .ok (.iushr, 1)) (pc' : Nat) (hp : pc + 1 = pc') {z : Int32} (hz : z = (x.toUInt32 >>> (y &&& 31).toUInt32).toInt32) (h : Wk p e below Fe T (mkF m pc' Ls (.int z :: S))) : Wk p e below Fe T (mkF m pc Ls (.int y :: .int x :: S)) := by
  subst hp hz; exact h.step fun _ k => XS.iushr X.here hx rfl hd rfl k
theorem w_dup (X : Stand p l e R s m args below meth c T locs cells slots) (hx : p.tables.exec = Jvm.exec) {x : Value} (hd : decode c.code pc = .ok (.dup, 1)) (pc' : Nat) (hp : pc + 1 = pc') (hc : x.category = 1) (h : Wk p e below Fe T (mkF m pc' Ls (x :: x :: S))) : Wk p e below Fe T (mkF m pc Ls (x :: S)) := by
  subst hp; exact h.step fun _ k => XS.dup X.here hx rfl hd rfl hc k
theorem w_goto (X : Stand p l e R s m args below meth c T locs cells slots) (hx : p.tables.exec = Jvm.exec) {o : Int} (hd : decode c.code pc = .ok (.goto o, 3)) (pc' : Nat) (h : Wk p e below Fe T (mkF m pc' Ls S)) (ho : 0 ≤ (pc : Int) + o := by decide) (hp : ((pc : Int) + o).toNat = pc' := by decide) : Wk p e below Fe T (mkF m pc Ls S) := by
  exact h.step fun _ k => XS.goto X.here hx rfl rfl hd ho hp k
theorem holds_eq {x y : Int32} {A B : Int} (ha : x.toInt = A) (hb : y.toInt = B) : ((A = B) → if_icmp.holds .eq x y = true) ∧ ((¬ A = B) → if_icmp.holds .eq x y = false) := by
  subst ha hb
  constructor
  · intro q
    first
    | exact (tlt (x := x) (y := y) (Int32.lt_iff_toInt_lt.mpr (by omega))).1
    | exact (flt (x := x) (y := y) (fun r => by have := Int32.lt_iff_toInt_lt.mp r; omega)).2.1
    | exact (tlt (x := y) (y := x) (Int32.lt_iff_toInt_lt.mpr (by omega))).2.2.1
    | exact (flt (x := y) (y := x) (fun r => by have := Int32.lt_iff_toInt_lt.mp r; omega)).2.2.2
    | exact (teq (x := x) (y := y) (Int32.toInt_inj.mp (by omega))).1
    | exact (feq (x := x) (y := y) (fun r => q (by rw [r]))).2
  · intro q
    first
    | exact (flt (x := x) (y := y) (fun r => by have := Int32.lt_iff_toInt_lt.mp r; omega)).1
    | exact (tlt (x := x) (y := y) (Int32.lt_iff_toInt_lt.mpr (by omega))).2.1
    | exact (flt (x := y) (y := x) (fun r => by have := Int32.lt_iff_toInt_lt.mp r; omega)).2.2.1
    | exact (tlt (x := y) (y := x) (Int32.lt_iff_toInt_lt.mpr (by omega))).2.2.2
    | exact (feq (x := x) (y := y) (fun r => q (by rw [r]))).1
    | exact (teq (x := x) (y := y) (Int32.toInt_inj.mp (by omega))).2
theorem w_icmp_eq (X : Stand p l e R s m args below meth c T locs cells slots) (hx : p.tables.exec = Jvm.exec) {x y : Int32} {o : Int} (A B : Int) (ha : x.toInt = A) (hb : y.toInt = B) (hd : decode c.code pc = .ok (.if_icmp .eq o, 3)) (pt pn : Nat) (h1 : A = B → Wk p e below Fe T (mkF m pt Ls S)) (h2 : ¬ A = B → Wk p e below Fe T (mkF m pn Ls S)) (ho : 0 ≤ (pc : Int) + o := by decide) (hp : ((pc : Int) + o).toNat = pt := by decide) (hn : pc + 3 = pn := by rfl) : Wk p e below Fe T (mkF m pc Ls (.int y :: .int x :: S)) := by
  subst hn
  by_cases q : A = B
  · exact (h1 q).step fun _ k => XS.icmpYes X.here hx rfl rfl hd rfl ((holds_eq ha hb).1 q) ho hp k
  · have q' : ¬ A = B := by omega
    exact (h2 q').step fun _ k => XS.icmpNo X.here hx rfl hd rfl ((holds_eq ha hb).2 q') k
theorem holds_ne {x y : Int32} {A B : Int} (ha : x.toInt = A) (hb : y.toInt = B) : ((¬ A = B) → if_icmp.holds .ne x y = true) ∧ ((A = B) → if_icmp.holds .ne x y = false) := by
  subst ha hb
  constructor
  · intro q
    first
    | exact (tlt (x := x) (y := y) (Int32.lt_iff_toInt_lt.mpr (by omega))).1
    | exact (flt (x := x) (y := y) (fun r => by have := Int32.lt_iff_toInt_lt.mp r; omega)).2.1
    | exact (tlt (x := y) (y := x) (Int32.lt_iff_toInt_lt.mpr (by omega))).2.2.1
    | exact (flt (x := y) (y := x) (fun r => by have := Int32.lt_iff_toInt_lt.mp r; omega)).2.2.2
    | exact (teq (x := x) (y := y) (Int32.toInt_inj.mp (by omega))).1
    | exact (feq (x := x) (y := y) (fun r => q (by rw [r]))).2
  · intro q
    first
    | exact (flt (x := x) (y := y) (fun r => by have := Int32.lt_iff_toInt_lt.mp r; omega)).1
    | exact (tlt (x := x) (y := y) (Int32.lt_iff_toInt_lt.mpr (by omega))).2.1
    | exact (flt (x := y) (y := x) (fun r => by have := Int32.lt_iff_toInt_lt.mp r; omega)).2.2.1
    | exact (tlt (x := y) (y := x) (Int32.lt_iff_toInt_lt.mpr (by omega))).2.2.2
    | exact (feq (x := x) (y := y) (fun r => q (by rw [r]))).1
    | exact (teq (x := x) (y := y) (Int32.toInt_inj.mp (by omega))).2
theorem w_icmp_ne (X : Stand p l e R s m args below meth c T locs cells slots) (hx : p.tables.exec = Jvm.exec) {x y : Int32} {o : Int} (A B : Int) (ha : x.toInt = A) (hb : y.toInt = B) (hd : decode c.code pc = .ok (.if_icmp .ne o, 3)) (pt pn : Nat) (h1 : ¬ A = B → Wk p e below Fe T (mkF m pt Ls S)) (h2 : A = B → Wk p e below Fe T (mkF m pn Ls S)) (ho : 0 ≤ (pc : Int) + o := by decide) (hp : ((pc : Int) + o).toNat = pt := by decide) (hn : pc + 3 = pn := by rfl) : Wk p e below Fe T (mkF m pc Ls (.int y :: .int x :: S)) := by
  subst hn
  by_cases q : ¬ A = B
  · exact (h1 q).step fun _ k => XS.icmpYes X.here hx rfl rfl hd rfl ((holds_ne ha hb).1 q) ho hp k
  · have q' : A = B := by omega
    exact (h2 q').step fun _ k => XS.icmpNo X.here hx rfl hd rfl ((holds_ne ha hb).2 q') k
theorem w_if_ne (X : Stand p l e R s m args below meth c T locs cells slots) (hx : p.tables.exec = Jvm.exec) {x : Int32} {o : Int} (A : Int) (ha : x.toInt = A) (hd : decode c.code pc = .ok (.ifCond .ne o, 3)) (pt pn : Nat) (h1 : ¬ A = 0 → Wk p e below Fe T (mkF m pt Ls S)) (h2 : A = 0 → Wk p e below Fe T (mkF m pn Ls S)) (ho : 0 ≤ (pc : Int) + o := by decide) (hp : ((pc : Int) + o).toNat = pt := by decide) (hn : pc + 3 = pn := by rfl) : Wk p e below Fe T (mkF m pc Ls (.int x :: S)) := by
  subst hn
  have hb : (0 : Int32).toInt = 0 := rfl
  by_cases q : ¬ A = 0
  · exact (h1 q).step fun _ k => XS.ifYes X.here hx rfl rfl hd rfl ((if0 _ _).trans ((holds_ne ha hb).1 q)) ho hp k
  · have q' : A = 0 := by omega
    exact (h2 q').step fun _ k => XS.ifNo X.here hx rfl hd rfl ((if0 _ _).trans ((holds_ne ha hb).2 q')) k
theorem holds_lt {x y : Int32} {A B : Int} (ha : x.toInt = A) (hb : y.toInt = B) : ((A < B) → if_icmp.holds .lt x y = true) ∧ ((B ≤ A) → if_icmp.holds .lt x y = false) := by
  subst ha hb
  constructor
  · intro q
    first
    | exact (tlt (x := x) (y := y) (Int32.lt_iff_toInt_lt.mpr (by omega))).1
    | exact (flt (x := x) (y := y) (fun r => by have := Int32.lt_iff_toInt_lt.mp r; omega)).2.1
    | exact (tlt (x := y) (y := x) (Int32.lt_iff_toInt_lt.mpr (by omega))).2.2.1
    | exact (flt (x := y) (y := x) (fun r => by have := Int32.lt_iff_toInt_lt.mp r; omega)).2.2.2
    | exact (teq (x := x) (y := y) (Int32.toInt_inj.mp (by omega))).1
    | exact (feq (x := x) (y := y) (fun r => q (by rw [r]))).2
  · intro q
    first
    | exact (flt (x := x) (y := y) (fun r => by have := Int32.lt_iff_toInt_lt.mp r; omega)).1
    | exact (tlt (x := x) (y := y) (Int32.lt_iff_toInt_lt.mpr (by omega))).2.1
    | exact (flt (x := y) (y := x) (fun r => by have := Int32.lt_iff_toInt_lt.mp r; omega)).2.2.1
    | exact (tlt (x := y) (y := x) (Int32.lt_iff_toInt_lt.mpr (by omega))).2.2.2
    | exact (feq (x := x) (y := y) (fun r => q (by rw [r]))).1
    | exact (teq (x := x) (y := y) (Int32.toInt_inj.mp (by omega))).2
theorem w_icmp_lt (X : Stand p l e R s m args below meth c T locs cells slots) (hx : p.tables.exec = Jvm.exec) {x y : Int32} {o : Int} (A B : Int) (ha : x.toInt = A) (hb : y.toInt = B) (hd : decode c.code pc = .ok (.if_icmp .lt o, 3)) (pt pn : Nat) (h1 : A < B → Wk p e below Fe T (mkF m pt Ls S)) (h2 : B ≤ A → Wk p e below Fe T (mkF m pn Ls S)) (ho : 0 ≤ (pc : Int) + o := by decide) (hp : ((pc : Int) + o).toNat = pt := by decide) (hn : pc + 3 = pn := by rfl) : Wk p e below Fe T (mkF m pc Ls (.int y :: .int x :: S)) := by
  subst hn
  by_cases q : A < B
  · exact (h1 q).step fun _ k => XS.icmpYes X.here hx rfl rfl hd rfl ((holds_lt ha hb).1 q) ho hp k
  · have q' : B ≤ A := by omega
    exact (h2 q').step fun _ k => XS.icmpNo X.here hx rfl hd rfl ((holds_lt ha hb).2 q') k
theorem holds_ge {x y : Int32} {A B : Int} (ha : x.toInt = A) (hb : y.toInt = B) : ((B ≤ A) → if_icmp.holds .ge x y = true) ∧ ((A < B) → if_icmp.holds .ge x y = false) := by
  subst ha hb
  constructor
  · intro q
    first
    | exact (tlt (x := x) (y := y) (Int32.lt_iff_toInt_lt.mpr (by omega))).1
    | exact (flt (x := x) (y := y) (fun r => by have := Int32.lt_iff_toInt_lt.mp r; omega)).2.1
    | exact (tlt (x := y) (y := x) (Int32.lt_iff_toInt_lt.mpr (by omega))).2.2.1
    | exact (flt (x := y) (y := x) (fun r => by have := Int32.lt_iff_toInt_lt.mp r; omega)).2.2.2
    | exact (teq (x := x) (y := y) (Int32.toInt_inj.mp (by omega))).1
    | exact (feq (x := x) (y := y) (fun r => q (by rw [r]))).2
  · intro q
    first
    | exact (flt (x := x) (y := y) (fun r => by have := Int32.lt_iff_toInt_lt.mp r; omega)).1
    | exact (tlt (x := x) (y := y) (Int32.lt_iff_toInt_lt.mpr (by omega))).2.1
    | exact (flt (x := y) (y := x) (fun r => by have := Int32.lt_iff_toInt_lt.mp r; omega)).2.2.1
    | exact (tlt (x := y) (y := x) (Int32.lt_iff_toInt_lt.mpr (by omega))).2.2.2
    | exact (feq (x := x) (y := y) (fun r => q (by rw [r]))).1
    | exact (teq (x := x) (y := y) (Int32.toInt_inj.mp (by omega))).2
theorem w_icmp_ge (X : Stand p l e R s m args below meth c T locs cells slots) (hx : p.tables.exec = Jvm.exec) {x y : Int32} {o : Int} (A B : Int) (ha : x.toInt = A) (hb : y.toInt = B) (hd : decode c.code pc = .ok (.if_icmp .ge o, 3)) (pt pn : Nat) (h1 : B ≤ A → Wk p e below Fe T (mkF m pt Ls S)) (h2 : A < B → Wk p e below Fe T (mkF m pn Ls S)) (ho : 0 ≤ (pc : Int) + o := by decide) (hp : ((pc : Int) + o).toNat = pt := by decide) (hn : pc + 3 = pn := by rfl) : Wk p e below Fe T (mkF m pc Ls (.int y :: .int x :: S)) := by
  subst hn
  by_cases q : B ≤ A
  · exact (h1 q).step fun _ k => XS.icmpYes X.here hx rfl rfl hd rfl ((holds_ge ha hb).1 q) ho hp k
  · have q' : A < B := by omega
    exact (h2 q').step fun _ k => XS.icmpNo X.here hx rfl hd rfl ((holds_ge ha hb).2 q') k
theorem w_if_ge (X : Stand p l e R s m args below meth c T locs cells slots) (hx : p.tables.exec = Jvm.exec) {x : Int32} {o : Int} (A : Int) (ha : x.toInt = A) (hd : decode c.code pc = .ok (.ifCond .ge o, 3)) (pt pn : Nat) (h1 : 0 ≤ A → Wk p e below Fe T (mkF m pt Ls S)) (h2 : A < 0 → Wk p e below Fe T (mkF m pn Ls S)) (ho : 0 ≤ (pc : Int) + o := by decide) (hp : ((pc : Int) + o).toNat = pt := by decide) (hn : pc + 3 = pn := by rfl) : Wk p e below Fe T (mkF m pc Ls (.int x :: S)) := by
  subst hn
  have hb : (0 : Int32).toInt = 0 := rfl
  by_cases q : 0 ≤ A
  · exact (h1 q).step fun _ k => XS.ifYes X.here hx rfl rfl hd rfl ((if0 _ _).trans ((holds_ge ha hb).1 q)) ho hp k
  · have q' : A < 0 := by omega
    exact (h2 q').step fun _ k => XS.ifNo X.here hx rfl hd rfl ((if0 _ _).trans ((holds_ge ha hb).2 q')) k
theorem holds_gt {x y : Int32} {A B : Int} (ha : x.toInt = A) (hb : y.toInt = B) : ((B < A) → if_icmp.holds .gt x y = true) ∧ ((A ≤ B) → if_icmp.holds .gt x y = false) := by
  subst ha hb
  constructor
  · intro q
    first
    | exact (tlt (x := x) (y := y) (Int32.lt_iff_toInt_lt.mpr (by omega))).1
    | exact (flt (x := x) (y := y) (fun r => by have := Int32.lt_iff_toInt_lt.mp r; omega)).2.1
    | exact (tlt (x := y) (y := x) (Int32.lt_iff_toInt_lt.mpr (by omega))).2.2.1
    | exact (flt (x := y) (y := x) (fun r => by have := Int32.lt_iff_toInt_lt.mp r; omega)).2.2.2
    | exact (teq (x := x) (y := y) (Int32.toInt_inj.mp (by omega))).1
    | exact (feq (x := x) (y := y) (fun r => q (by rw [r]))).2
  · intro q
    first
    | exact (flt (x := x) (y := y) (fun r => by have := Int32.lt_iff_toInt_lt.mp r; omega)).1
    | exact (tlt (x := x) (y := y) (Int32.lt_iff_toInt_lt.mpr (by omega))).2.1
    | exact (flt (x := y) (y := x) (fun r => by have := Int32.lt_iff_toInt_lt.mp r; omega)).2.2.1
    | exact (tlt (x := y) (y := x) (Int32.lt_iff_toInt_lt.mpr (by omega))).2.2.2
    | exact (feq (x := x) (y := y) (fun r => q (by rw [r]))).1
    | exact (teq (x := x) (y := y) (Int32.toInt_inj.mp (by omega))).2
theorem w_icmp_gt (X : Stand p l e R s m args below meth c T locs cells slots) (hx : p.tables.exec = Jvm.exec) {x y : Int32} {o : Int} (A B : Int) (ha : x.toInt = A) (hb : y.toInt = B) (hd : decode c.code pc = .ok (.if_icmp .gt o, 3)) (pt pn : Nat) (h1 : B < A → Wk p e below Fe T (mkF m pt Ls S)) (h2 : A ≤ B → Wk p e below Fe T (mkF m pn Ls S)) (ho : 0 ≤ (pc : Int) + o := by decide) (hp : ((pc : Int) + o).toNat = pt := by decide) (hn : pc + 3 = pn := by rfl) : Wk p e below Fe T (mkF m pc Ls (.int y :: .int x :: S)) := by
  subst hn
  by_cases q : B < A
  · exact (h1 q).step fun _ k => XS.icmpYes X.here hx rfl rfl hd rfl ((holds_gt ha hb).1 q) ho hp k
  · have q' : A ≤ B := by omega
    exact (h2 q').step fun _ k => XS.icmpNo X.here hx rfl hd rfl ((holds_gt ha hb).2 q') k
theorem holds_le {x y : Int32} {A B : Int} (ha : x.toInt = A) (hb : y.toInt = B) : ((A ≤ B) → if_icmp.holds .le x y = true) ∧ ((B < A) → if_icmp.holds .le x y = false) := by
  subst ha hb
  constructor
  · intro q
    first
    | exact (tlt (x := x) (y := y) (Int32.lt_iff_toInt_lt.mpr (by omega))).1
    | exact (flt (x := x) (y := y) (fun r => by have := Int32.lt_iff_toInt_lt.mp r; omega)).2.1
    | exact (tlt (x := y) (y := x) (Int32.lt_iff_toInt_lt.mpr (by omega))).2.2.1
    | exact (flt (x := y) (y := x) (fun r => by have := Int32.lt_iff_toInt_lt.mp r; omega)).2.2.2
    | exact (teq (x := x) (y := y) (Int32.toInt_inj.mp (by omega))).1
    | exact (feq (x := x) (y := y) (fun r => q (by rw [r]))).2
  · intro q
    first
    | exact (flt (x := x) (y := y) (fun r => by have := Int32.lt_iff_toInt_lt.mp r; omega)).1
    | exact (tlt (x := x) (y := y) (Int32.lt_iff_toInt_lt.mpr (by omega))).2.1
    | exact (flt (x := y) (y := x) (fun r => by have := Int32.lt_iff_toInt_lt.mp r; omega)).2.2.1
    | exact (tlt (x := y) (y := x) (Int32.lt_iff_toInt_lt.mpr (by omega))).2.2.2
    | exact (feq (x := x) (y := y) (fun r => q (by rw [r]))).1
    | exact (teq (x := x) (y := y) (Int32.toInt_inj.mp (by omega))).2
theorem w_icmp_le (X : Stand p l e R s m args below meth c T locs cells slots) (hx : p.tables.exec = Jvm.exec) {x y : Int32} {o : Int} (A B : Int) (ha : x.toInt = A) (hb : y.toInt = B) (hd : decode c.code pc = .ok (.if_icmp .le o, 3)) (pt pn : Nat) (h1 : A ≤ B → Wk p e below Fe T (mkF m pt Ls S)) (h2 : B < A → Wk p e below Fe T (mkF m pn Ls S)) (ho : 0 ≤ (pc : Int) + o := by decide) (hp : ((pc : Int) + o).toNat = pt := by decide) (hn : pc + 3 = pn := by rfl) : Wk p e below Fe T (mkF m pc Ls (.int y :: .int x :: S)) := by
  subst hn
  by_cases q : A ≤ B
  · exact (h1 q).step fun _ k => XS.icmpYes X.here hx rfl rfl hd rfl ((holds_le ha hb).1 q) ho hp k
  · have q' : B < A := by omega
    exact (h2 q').step fun _ k => XS.icmpNo X.here hx rfl hd rfl ((holds_le ha hb).2 q') k
theorem w_retN (X : Stand p l e R s m args below meth c T locs cells slots) (hx : p.tables.exec = Jvm.exec) (hlocks : meth.locks = false) {t : FieldType} {z : Int32} (hret : meth.sig.returnType = some t) (ht : t = .boolean ∨ t = .byte ∨ t = .char ∨ t = .short) (hd : decode c.code pc = .ok (.ireturn, 1)) (hc : cells ≤ kc) (hs : slots ≤ ks) (hQ : Q (some (.int (nar t z))) T.heap locs) : Wk p e below (FN s Q kc ks) T (mkF m pc Ls (.int z :: S)) := by
  obtain ⟨fs, hr, hrun, hended, hW, hsame⟩ := X.leave (v := some (.int (nar t z))) (fun h => by rw [hret] at h; cases h) hlocks
  exact ⟨_, _, retN X hx hret ht hd hr, hrun, hended, _, _, rfl, hQ, ⟨_, rfl⟩, hW, hsame.mono hc hs⟩
theorem w_callS (X : Stand p l e R s m args below meth c T locs cells slots) (hx : p.tables.exec = Jvm.exec) (hZ : Z.Warmed39 s.vm) {own : String} {index : Nat} {y : MethodName} {bytes : ByteArray} {maxL : Nat} {ret : Option FieldType} {rm : Room} {as' : Array Value} {Qc : Option Value → Heap → List Loc → Prop} (hown : s.vm.findClass own = some m.cls) (eT : T.heap = h)
    (hM : MetFree l y (head1 [Cond.code y bytes maxL ret] rm) (fun a U => a = as' ∧ Z.Warmed39 U.vm ∧ U.heap = h) (fun _ _ _ _ _ => True) (fun _ U o U' => ∃ v L, o = .returned v ∧ Qc v U'.heap L ∧ FrameEnd U o U' L rm.cells rm.slots))
    (w1 : (Cond.methodLink own index y).before a0 Z = true) (w2 : (Cond.static y).before a0 Z = true) (w3 : (Cond.initialized y.cls).before a0 Z = true) (w4 : (Cond.code y bytes maxL ret).before a0 Z = true) (hy : y.cls ≠ "java/lang/invoke/MethodHandle" ∧ y.cls ≠ "java/lang/invoke/VarHandle")
    (hsize : Ls.size = c.maxLocals) (argsL rest : List Value) (hlen : ∀ sig, parseMethodDescriptor y.desc = some sig → argsL.length = sig.parameters.length) (hst : S = argsL.reverse ++ rest) (has : argsL.toArray = as')
    (hf : rm.frames + 1 ≤ R.frames) (W : Nat) (hW : (rest.map fun v => v.category).sum = W) (hl : W + (maxL + 11) + rm.locals ≤ R.locals) (hc : cells + rm.cells ≤ R.cells) (hs : slots + rm.slots ≤ R.slots) (hd : decode c.code pc = .ok (.invokestatic index, 3)) (pc' : Nat) (hp : pc + 3 = pc')
    (k : ∀ (v : Option Value) (T' : State) (L : List Loc), Stand p l e R s m args below meth c T' (locs ++ L) (cells + rm.cells) (slots + rm.slots) → Qc v T'.heap L → Wk p e below Fe T' (mkF m pc' Ls (v.toList ++ rest))) : Wk p e below Fe T (mkF m pc Ls S) := by
  subst hp hst has hW
  obtain ⟨v, _, ⟨T', L', k', n'⟩, -, X', ⟨Lc, q1, q2, q3, q4⟩, st⟩ := Jvm.LawKit.callS X hx hown (mvT hZ w1) (mvT hZ w2) (mvT hZ w3) (mvT hZ w4) hy (backOf hM hZ w4 w3 hf hl) (g := mkF m pc Ls (argsL.reverse ++ rest)) rfl hsize hlen rfl (by show 2 * 0 + _ ≤ _; rw [Nat.mul_zero, Nat.zero_add]; exact Nat.le_refl _) hd (fun _ _ => ⟨rfl, eT, hc, hs⟩)
  dsimp only [Pt.U, Pt.locs, Pt.cells, Pt.slots] at X' q2 q3 q4 st q1
  subst q2 q3 q4
  exact (k v T' Lc X' q1).step st
theorem w_newP (X : Stand p l e R s m args below meth c T locs cells slots) (hx : p.tables.exec = Jvm.exec) (hZ : Z.Warmed39 s.vm) (eT : T.heap = h) {aty : ArrayType} (w : (Cond.arrayClass (newarray.typeOf aty)).before a0 Z = true) {n : Int32} (hn : ¬ n < 0) (cap : Nat) (hcap : n.toNatClampNeg ≤ cap) (hb : cap * 8 ≤ 536870912) (hc : cells + 1 ≤ R.cells) (hl : slots + cap ≤ R.slots) (hd : decode c.code pc = .ok (.newarray aty, 2)) (pc' : Nat) (hp : pc + 2 = pc')
    (k : ∀ (T' : State) (h' : Heap) (a : Addr) (cA : ClassId), Stand p l e R s m args below meth c T' locs (cells + 1) (slots + cap) → T'.heap = h' → a = h.size → Ext h h' → Arv Z h' a cA (newarray.typeOf aty) n [] (defaultValue (newarray.typeOf aty)) → Wk p e below Fe T' (mkF m pc' Ls (.ref a :: S))) : Wk p e below Fe T (mkF m pc Ls (.int n :: S)) := by
  subst hp
  obtain ⟨T', h', cA, X', e', E', A', st⟩ := newP X hx hZ w eT (g := mkF m pc Ls (.int n :: S)) rfl hd rfl hn hcap hb hc hl
  exact (k T' h' _ cA X' e' rfl E' (Arv.new A' hn)).step st
theorem w_iastore (X : Stand p l e R s m args below meth c T locs cells slots) (hx : p.tables.exec = Jvm.exec) (hZ : Z.Warmed39 s.vm) (eT : T.heap = h) {a : Addr} {kA : ClassId} {z : Int32} {vs : List Value} {dv : Value} (A : Arv Z h a kA .int z vs dv) {j x : Int32} (hj : 0 ≤ j.toInt ∧ j.toInt < z.toInt) (i : Nat) (hi : j.toNatClampNeg = i) (hv : i < vs.length) (hd : decode c.code pc = .ok (.iastore, 1)) (pc' : Nat) (hp : pc + 1 = pc')
    (k : ∀ (T' : State) (h' : Heap), Stand p l e R s m args below meth c T' (locs ++ [⟨a, j.toNatClampNeg⟩]) cells slots → T'.heap = h' → Wr h h' a j.toNatClampNeg (.int x) → Arv Z h' a kA .int z (vs.set i (.int x)) dv → Wk p e below Fe T' (mkF m pc' Ls S)) : Wk p e below Fe T (mkF m pc Ls (.int x :: .int j :: .ref a :: S)) := by
  subst hp
  obtain ⟨cl, Ar, q, Sz, Nz, H, G⟩ := A
  have hin : ¬ (j < 0 ∨ cl.slots.size ≤ j.toNatClampNeg) := inb_of Sz ⟨fun r => by have := Int32.lt_iff_toInt_lt.mp r; have h0 : (0 : Int32).toInt = 0 := rfl; omega, Int32.lt_iff_toInt_lt.mpr hj.2⟩
  obtain ⟨T', h', X', e', W', st⟩ := stI X hx hZ eT Ar hin (g := mkF m pc Ls (.int x :: .int j :: .ref a :: S)) rfl rfl hd
  exact (k T' h' X' e' W' (Arv.set Ar q Sz Nz H G rfl W' i hi hv)).step st
theorem w_iaload (X : Stand p l e R s m args below meth c T locs cells slots) (hx : p.tables.exec = Jvm.exec) (hZ : Z.Warmed39 s.vm) (eT : T.heap = h) {a : Addr} {kA : ClassId} {z : Int32} {vs : List Value} {dv : Value} (A : Arv Z h a kA .int z vs dv) {j : Int32} (hj : 0 ≤ j.toInt ∧ j.toInt < z.toInt) {v : Value} (hv : vs.getD j.toNatClampNeg dv = v) (hd : decode c.code pc = .ok (.iaload, 1)) (pc' : Nat) (hp : pc + 1 = pc')
    (k : Wk p e below Fe T (mkF m pc' Ls (v :: S))) : Wk p e below Fe T (mkF m pc Ls (.int j :: .ref a :: S)) := by
  subst hp
  obtain ⟨cl, Ar, q, Sz, Nz, H, G⟩ := A
  have hin : ¬ (j < 0 ∨ cl.slots.size ≤ j.toNatClampNeg) := inb_of Sz ⟨fun r => by have := Int32.lt_iff_toInt_lt.mp r; have h0 : (0 : Int32).toInt = 0 := rfl; omega, Int32.lt_iff_toInt_lt.mpr hj.2⟩
  exact k.step fun t r => X.iaload hx (by rw [eT]; exact Ar.1) (State.isArrayOf_alike hZ.alike Ar.2.1) Ar.2.2 hin (Has.at H hin hv) (g := mkF m pc Ls (.int j :: .ref a :: S)) rfl rfl hd t r
abbrev CT (l : Launch) (y : MethodName) (bytes : ByteArray) (maxL : Nat) (ret : Option FieldType) (ws : List Cond) (rm : Room) (as' : Array Value) (Z : State) (h0 : Heap) (Q : Option Value → Heap → List Loc → Prop) : Prop :=
  MetFree l y (head1 (Cond.code y bytes maxL ret :: ws) rm) (fun a U => a = as' ∧ Z.Warmed39 U.vm ∧ U.heap = h0) (fun _ _ _ _ _ => True) (fun _ U o U' => ∃ v L, o = .returned v ∧ Q v U'.heap L ∧ FrameEnd U o U' L rm.cells rm.slots)
theorem body_of {y : MethodName} {bytes : ByteArray} {maxL : Nat} {ret : Option FieldType} {ws : List Cond} {rm : Room} {as' : Array Value} {h0 : Heap} (hpl : plainFor y = true)
    (k : ∀ (p : Program) (e : Env) (s : State) (m : MethodId) (below : List Frame) (meth : Method) (c : Code) (s₁ : State), p.tables.exec = Jvm.exec → (∀ {pc : Nat} {r : Except DecodeError (Instr × Nat)}, decode bytes pc = r → decode c.code pc = r) → meth.sig.returnType = ret → meth.locks = false → c.maxLocals = maxL → s.vm.findClass y.cls = some m.cls → meth.name = y.name → Stand p l e rm s m as' below meth c s₁ [] 0 0 → s₁.heap = h0 → Z.Warmed39 s.vm → Wk p e below (FN s Q kc ks) s₁ (entryFrame m as' maxL)) :
    MetFree l y (head1 (Cond.code y bytes maxL ret :: ws) rm) (fun a U => a = as' ∧ Z.Warmed39 U.vm ∧ U.heap = h0) (fun _ _ _ _ _ => True) (fun _ U o U' => ∃ v L, o = .returned v ∧ Q v U'.heap L ∧ FrameEnd U o U' L kc ks) := by
  refine MetFree.of_bodySF hpl hisR ?_
  intro p e s m args below meth c s₁ Bd hml0 hP hK
  obtain ⟨rfl, hZ, hh⟩ := hP
  obtain ⟨s₂, o, h1, h2⟩ := k p e s m below meth c s₁ Bd.exec (fun q => hb Bd.bytes q) Bd.returns Bd.notSynchronized hml0 (findClass_of_methodNamed Bd.named) (name_of_methodNamed Bd.named Bd.method).1 (Stand.of_body Bd) (by rw [← hh, Bd.state]; rfl) hZ
  exact ⟨s₂, o, h1, h2⟩
end Walk
/-! plain facts on Int32 and Int64, in Ints -/
def own_b (P : Prop) [Decidable P] : Int := if P then 1 else 0
theorem own_b_pos {P : Prop} [Decidable P] (h : P) : own_b P = 1 := if_pos h
theorem own_b_neg {P : Prop} [Decidable P] (h : ¬ P) : own_b P = 0 := if_neg h
theorem subX {x y : Int32} {A B : Int} (ha : x.toInt = A) (hb : y.toInt = B) (h1 : -2147483648 ≤ A - B) (h2 : A - B < 2147483648) : (x - y).toInt = A - B := by
  have := c_isub x y; have := rng32 (x - y); omega
theorem maskX {x m : Int32} {A : Int} (k : Nat) (ha : x.toInt = A) (hk : k ≤ 31) (hm : m.toBitVec.toNat = 2 ^ k - 1) : (x &&& m).toInt = A % (2 ^ k : Nat) := by subst ha; exact c_mask x m k hk hm
theorem iushrX {x q : Int32} {A : Int} (k : Nat) (ha : x.toInt = A) (hk : q.toBitVec.toNat % 32 = k) (h0 : 0 < k) : ((x.toUInt32 >>> (q &&& 31).toUInt32).toInt32).toInt = (A % 4294967296) / (2 ^ k : Nat) := by subst ha; exact c_iushr x q k hk h0
theorem addM {x y : Int32} {A B : Int} (ha : x.toInt = A) (hb : y.toInt = B) : ((x + y).toInt - (A + B)) % 4294967296 = 0 := by subst ha hb; exact c_iadd x y
theorem getD_int (xs : List Int32) (k : Nat) : (xs.map Value.int).getD k (.int 0) = .int (xs.getD k 0) := by
  simp only [List.getD_eq_getElem?_getD, List.getElem?_map]
  cases xs[k]? <;> rfl
end Jvm.Own
namespace Jvm.Pilot.@@N@@
open Jvm Jvm.ClassFile Sem Op Lib Jvm.Free Jvm.Stand Jvm.LawKit Jvm.RoadKit Bundle Jvm.Own Jvm.Pilot.@@N@@.Jvm.D
abbrev cN_0 : String := "com/example/coralline/coralline/xer/TextEncoder"
abbrev cN_1 : String := "com/example/coralline/coralline/xer/TextEncoderIsXmlCharacterPinLaw"
theorem tw_0 {Z : State} {a0 : Array Value} (hw : ∀ d ∈ tables_1, d.before a0 Z = true) : (Jvm.Cond.arrayClass Jvm.ClassFile.FieldType.int).before a0 Z = true := hw _ (List.mem_of_getElem? (i := 0) rfl)
theorem tw_1 {Z : State} {a0 : Array Value} (hw : ∀ d ∈ tables_1, d.before a0 Z = true) : (Jvm.Cond.constant "com/example/coralline/coralline/xer/TextEncoderIsXmlCharacterPinLaw" (12 : Nat) (55295 : Int32)).before a0 Z = true := hw _ (List.mem_of_getElem? (i := 1) rfl)
theorem tw_2 {Z : State} {a0 : Array Value} (hw : ∀ d ∈ tables_1, d.before a0 Z = true) : (Jvm.Cond.constant "com/example/coralline/coralline/xer/TextEncoderIsXmlCharacterPinLaw" (8 : Nat) (55296 : Int32)).before a0 Z = true := hw _ (List.mem_of_getElem? (i := 2) rfl)
theorem tw_3 {Z : State} {a0 : Array Value} (hw : ∀ d ∈ tables_1, d.before a0 Z = true) : (Jvm.Cond.constant "com/example/coralline/coralline/xer/TextEncoderIsXmlCharacterPinLaw" (9 : Nat) (57343 : Int32)).before a0 Z = true := hw _ (List.mem_of_getElem? (i := 3) rfl)
theorem tw_4 {Z : State} {a0 : Array Value} (hw : ∀ d ∈ tables_1, d.before a0 Z = true) : (Jvm.Cond.constant "com/example/coralline/coralline/xer/TextEncoderIsXmlCharacterPinLaw" (13 : Nat) (57344 : Int32)).before a0 Z = true := hw _ (List.mem_of_getElem? (i := 4) rfl)
theorem tw_5 {Z : State} {a0 : Array Value} (hw : ∀ d ∈ tables_1, d.before a0 Z = true) : (Jvm.Cond.constant "com/example/coralline/coralline/xer/TextEncoderIsXmlCharacterPinLaw" (14 : Nat) (65533 : Int32)).before a0 Z = true := hw _ (List.mem_of_getElem? (i := 5) rfl)
theorem tw_6 {Z : State} {a0 : Array Value} (hw : ∀ d ∈ tables_1, d.before a0 Z = true) : (Jvm.Cond.constant "com/example/coralline/coralline/xer/TextEncoderIsXmlCharacterPinLaw" (11 : Nat) (65535 : Int32)).before a0 Z = true := hw _ (List.mem_of_getElem? (i := 6) rfl)
theorem tw_7 {Z : State} {a0 : Array Value} (hw : ∀ d ∈ tables_1, d.before a0 Z = true) : (Jvm.Cond.constant "com/example/coralline/coralline/xer/TextEncoderIsXmlCharacterPinLaw" (15 : Nat) (65536 : Int32)).before a0 Z = true := hw _ (List.mem_of_getElem? (i := 7) rfl)
theorem tw_8 {Z : State} {a0 : Array Value} (hw : ∀ d ∈ tables_1, d.before a0 Z = true) : (Jvm.Cond.constant "com/example/coralline/coralline/xer/TextEncoderIsXmlCharacterPinLaw" (7 : Nat) (1114111 : Int32)).before a0 Z = true := hw _ (List.mem_of_getElem? (i := 8) rfl)
theorem tw_9 {Z : State} {a0 : Array Value} (hw : ∀ d ∈ tables_1, d.before a0 Z = true) : (Jvm.Cond.constant "com/example/coralline/coralline/xer/TextEncoderIsXmlCharacterPinLaw" (18 : Nat) (-2147483648 : Int32)).before a0 Z = true := hw _ (List.mem_of_getElem? (i := 9) rfl)
theorem tw_10 {Z : State} {a0 : Array Value} (hw : ∀ d ∈ tables_1, d.before a0 Z = true) : (Jvm.Cond.constant "com/example/coralline/coralline/xer/TextEncoderIsXmlCharacterPinLaw" (19 : Nat) (2147483647 : Int32)).before a0 Z = true := hw _ (List.mem_of_getElem? (i := 10) rfl)
theorem tw_11 {Z : State} {a0 : Array Value} (hw : ∀ d ∈ tables_1, d.before a0 Z = true) : (Jvm.Cond.methodLink "com/example/coralline/coralline/xer/TextEncoderIsXmlCharacterPinLaw" (20 : Nat) ({ cls := "com/example/coralline/coralline/xer/TextEncoder", name := "isXmlCharacter", desc := "(I)Z" } : Jvm.MethodName)).before a0 Z = true := hw _ (List.mem_of_getElem? (i := 11) rfl)
theorem tw_12 {Z : State} {a0 : Array Value} (hw : ∀ d ∈ tables_1, d.before a0 Z = true) : (Jvm.Cond.static ({ cls := "com/example/coralline/coralline/xer/TextEncoder", name := "isXmlCharacter", desc := "(I)Z" } : Jvm.MethodName)).before a0 Z = true := hw _ (List.mem_of_getElem? (i := 12) rfl)
theorem tw_13 {Z : State} {a0 : Array Value} (hw : ∀ d ∈ tables_1, d.before a0 Z = true) : (Jvm.Cond.initialized "com/example/coralline/coralline/xer/TextEncoder").before a0 Z = true := hw _ (List.mem_of_getElem? (i := 13) rfl)
theorem tw_14 {Z : State} {a0 : Array Value} (hw : ∀ d ∈ tables_1, d.before a0 Z = true) : (Jvm.Cond.code ({ cls := "com/example/coralline/coralline/xer/TextEncoder", name := "isXmlCharacter", desc := "(I)Z" } : Jvm.MethodName) prog_106_method_46_code (1 : Nat) (Option.some Jvm.ClassFile.FieldType.boolean)).before a0 Z = true := hw _ (List.mem_of_getElem? (i := 14) rfl)
theorem tw_15 {Z : State} {a0 : Array Value} (hw : ∀ d ∈ tables_1, d.before a0 Z = true) : (Jvm.Cond.constant "com/example/coralline/coralline/xer/TextEncoder" (675 : Nat) (57344 : Int32)).before a0 Z = true := hw _ (List.mem_of_getElem? (i := 15) rfl)
theorem tw_16 {Z : State} {a0 : Array Value} (hw : ∀ d ∈ tables_1, d.before a0 Z = true) : (Jvm.Cond.constant "com/example/coralline/coralline/xer/TextEncoder" (677 : Nat) (65536 : Int32)).before a0 Z = true := hw _ (List.mem_of_getElem? (i := 16) rfl)
theorem tw_17 {Z : State} {a0 : Array Value} (hw : ∀ d ∈ tables_1, d.before a0 Z = true) : (Jvm.Cond.methodLink "com/example/coralline/coralline/xer/TextEncoderIsXmlCharacterPinLaw" (26 : Nat) ({ cls := "com/example/coralline/coralline/xer/TextEncoderIsXmlCharacterPinLaw", name := "forbidden", desc := "(I)Z" } : Jvm.MethodName)).before a0 Z = true := hw _ (List.mem_of_getElem? (i := 17) rfl)
theorem tw_18 {Z : State} {a0 : Array Value} (hw : ∀ d ∈ tables_1, d.before a0 Z = true) : (Jvm.Cond.static ({ cls := "com/example/coralline/coralline/xer/TextEncoderIsXmlCharacterPinLaw", name := "forbidden", desc := "(I)Z" } : Jvm.MethodName)).before a0 Z = true := hw _ (List.mem_of_getElem? (i := 18) rfl)
theorem tw_19 {Z : State} {a0 : Array Value} (hw : ∀ d ∈ tables_1, d.before a0 Z = true) : (Jvm.Cond.initialized "com/example/coralline/coralline/xer/TextEncoderIsXmlCharacterPinLaw").before a0 Z = true := hw _ (List.mem_of_getElem? (i := 19) rfl)
theorem tw_20 {Z : State} {a0 : Array Value} (hw : ∀ d ∈ tables_1, d.before a0 Z = true) : (Jvm.Cond.code ({ cls := "com/example/coralline/coralline/xer/TextEncoderIsXmlCharacterPinLaw", name := "forbidden", desc := "(I)Z" } : Jvm.MethodName) method_2_code (1 : Nat) (Option.some Jvm.ClassFile.FieldType.boolean)).before a0 Z = true := hw _ (List.mem_of_getElem? (i := 20) rfl)
theorem tw_21 {Z : State} {a0 : Array Value} (hw : ∀ d ∈ tables_1, d.before a0 Z = true) : (Jvm.Cond.constant "com/example/coralline/coralline/xer/TextEncoder" (674 : Nat) (55295 : Int32)).before a0 Z = true := hw _ (List.mem_of_getElem? (i := 21) rfl)
theorem tw_22 {Z : State} {a0 : Array Value} (hw : ∀ d ∈ tables_1, d.before a0 Z = true) : (Jvm.Cond.constant "com/example/coralline/coralline/xer/TextEncoderIsXmlCharacterPinLaw" (10 : Nat) (65534 : Int32)).before a0 Z = true := hw _ (List.mem_of_getElem? (i := 22) rfl)
theorem tw_23 {Z : State} {a0 : Array Value} (hw : ∀ d ∈ tables_1, d.before a0 Z = true) : (Jvm.Cond.constant "com/example/coralline/coralline/xer/TextEncoder" (676 : Nat) (65533 : Int32)).before a0 Z = true := hw _ (List.mem_of_getElem? (i := 23) rfl)
theorem tw_24 {Z : State} {a0 : Array Value} (hw : ∀ d ∈ tables_1, d.before a0 Z = true) : (Jvm.Cond.constant "com/example/coralline/coralline/xer/TextEncoder" (678 : Nat) (1114111 : Int32)).before a0 Z = true := hw _ (List.mem_of_getElem? (i := 24) rfl)
theorem d1_0 : decode prog_106_method_46_code 0 = .ok (.iload_n 0, 1) := by decide +kernel
theorem d1_1 : decode prog_106_method_46_code 1 = .ok (.bipush 9, 2) := by decide +kernel
theorem d1_3 : decode prog_106_method_46_code 3 = .ok (.if_icmp .eq 56, 3) := by decide +kernel
theorem d1_6 : decode prog_106_method_46_code 6 = .ok (.iload_n 0, 1) := by decide +kernel
theorem d1_7 : decode prog_106_method_46_code 7 = .ok (.bipush 10, 2) := by decide +kernel
theorem d1_9 : decode prog_106_method_46_code 9 = .ok (.if_icmp .eq 50, 3) := by decide +kernel
theorem d1_12 : decode prog_106_method_46_code 12 = .ok (.iload_n 0, 1) := by decide +kernel
theorem d1_13 : decode prog_106_method_46_code 13 = .ok (.bipush 13, 2) := by decide +kernel
theorem d1_15 : decode prog_106_method_46_code 15 = .ok (.if_icmp .eq 44, 3) := by decide +kernel
theorem d1_18 : decode prog_106_method_46_code 18 = .ok (.iload_n 0, 1) := by decide +kernel
theorem d1_19 : decode prog_106_method_46_code 19 = .ok (.bipush 32, 2) := by decide +kernel
theorem d1_21 : decode prog_106_method_46_code 21 = .ok (.if_icmp .lt 10, 3) := by decide +kernel
theorem d1_24 : decode prog_106_method_46_code 24 = .ok (.iload_n 0, 1) := by decide +kernel
theorem d1_25 : decode prog_106_method_46_code 25 = .ok (.ldc_w 674, 3) := by decide +kernel
theorem d1_28 : decode prog_106_method_46_code 28 = .ok (.if_icmp .le 31, 3) := by decide +kernel
theorem d1_31 : decode prog_106_method_46_code 31 = .ok (.iload_n 0, 1) := by decide +kernel
theorem d1_32 : decode prog_106_method_46_code 32 = .ok (.ldc_w 675, 3) := by decide +kernel
theorem d1_35 : decode prog_106_method_46_code 35 = .ok (.if_icmp .lt 10, 3) := by decide +kernel
theorem d1_38 : decode prog_106_method_46_code 38 = .ok (.iload_n 0, 1) := by decide +kernel
theorem d1_39 : decode prog_106_method_46_code 39 = .ok (.ldc_w 676, 3) := by decide +kernel
theorem d1_42 : decode prog_106_method_46_code 42 = .ok (.if_icmp .le 17, 3) := by decide +kernel
theorem d1_45 : decode prog_106_method_46_code 45 = .ok (.iload_n 0, 1) := by decide +kernel
theorem d1_46 : decode prog_106_method_46_code 46 = .ok (.ldc_w 677, 3) := by decide +kernel
theorem d1_49 : decode prog_106_method_46_code 49 = .ok (.if_icmp .lt 14, 3) := by decide +kernel
theorem d1_52 : decode prog_106_method_46_code 52 = .ok (.iload_n 0, 1) := by decide +kernel
theorem d1_53 : decode prog_106_method_46_code 53 = .ok (.ldc_w 678, 3) := by decide +kernel
theorem d1_56 : decode prog_106_method_46_code 56 = .ok (.if_icmp .gt 7, 3) := by decide +kernel
theorem d1_59 : decode prog_106_method_46_code 59 = .ok (.iconst 1, 1) := by decide +kernel
theorem d1_60 : decode prog_106_method_46_code 60 = .ok (.goto 4, 3) := by decide +kernel
theorem d1_63 : decode prog_106_method_46_code 63 = .ok (.iconst 0, 1) := by decide +kernel
theorem d1_64 : decode prog_106_method_46_code 64 = .ok (.ireturn, 1) := by decide +kernel
theorem pn_0 : plainName "com/example/coralline/coralline/xer/TextEncoder" = true := by first | (simp [plainName, overriddenIn]; done) | decide +kernel
abbrev mN_1 : MethodName := ⟨"com/example/coralline/coralline/xer/TextEncoder", "isXmlCharacter", "(I)Z"⟩
theorem d2_0 : decode method_2_code 0 = .ok (.iload_n 0, 1) := by decide +kernel
theorem d2_1 : decode method_2_code 1 = .ok (.ifCond .ge 5, 3) := by decide +kernel
theorem d2_4 : decode method_2_code 4 = .ok (.iconst 1, 1) := by decide +kernel
theorem d2_5 : decode method_2_code 5 = .ok (.ireturn, 1) := by decide +kernel
theorem d2_6 : decode method_2_code 6 = .ok (.iload_n 0, 1) := by decide +kernel
theorem d2_7 : decode method_2_code 7 = .ok (.ldc 7, 2) := by decide +kernel
theorem d2_9 : decode method_2_code 9 = .ok (.if_icmp .le 5, 3) := by decide +kernel
theorem d2_12 : decode method_2_code 12 = .ok (.iconst 1, 1) := by decide +kernel
theorem d2_13 : decode method_2_code 13 = .ok (.ireturn, 1) := by decide +kernel
theorem d2_14 : decode method_2_code 14 = .ok (.iload_n 0, 1) := by decide +kernel
theorem d2_15 : decode method_2_code 15 = .ok (.bipush 32, 2) := by decide +kernel
theorem d2_17 : decode method_2_code 17 = .ok (.if_icmp .ge 27, 3) := by decide +kernel
theorem d2_20 : decode method_2_code 20 = .ok (.iload_n 0, 1) := by decide +kernel
theorem d2_21 : decode method_2_code 21 = .ok (.bipush 9, 2) := by decide +kernel
theorem d2_23 : decode method_2_code 23 = .ok (.if_icmp .eq 19, 3) := by decide +kernel
theorem d2_26 : decode method_2_code 26 = .ok (.iload_n 0, 1) := by decide +kernel
theorem d2_27 : decode method_2_code 27 = .ok (.bipush 10, 2) := by decide +kernel
theorem d2_29 : decode method_2_code 29 = .ok (.if_icmp .eq 13, 3) := by decide +kernel
theorem d2_32 : decode method_2_code 32 = .ok (.iload_n 0, 1) := by decide +kernel
theorem d2_33 : decode method_2_code 33 = .ok (.bipush 13, 2) := by decide +kernel
theorem d2_35 : decode method_2_code 35 = .ok (.if_icmp .eq 7, 3) := by decide +kernel
theorem d2_38 : decode method_2_code 38 = .ok (.iconst 1, 1) := by decide +kernel
theorem d2_39 : decode method_2_code 39 = .ok (.goto 4, 3) := by decide +kernel
theorem d2_42 : decode method_2_code 42 = .ok (.iconst 0, 1) := by decide +kernel
theorem d2_43 : decode method_2_code 43 = .ok (.ireturn, 1) := by decide +kernel
theorem d2_44 : decode method_2_code 44 = .ok (.iload_n 0, 1) := by decide +kernel
theorem d2_45 : decode method_2_code 45 = .ok (.ldc 8, 2) := by decide +kernel
theorem d2_47 : decode method_2_code 47 = .ok (.if_icmp .lt 11, 3) := by decide +kernel
theorem d2_50 : decode method_2_code 50 = .ok (.iload_n 0, 1) := by decide +kernel
theorem d2_51 : decode method_2_code 51 = .ok (.ldc 9, 2) := by decide +kernel
theorem d2_53 : decode method_2_code 53 = .ok (.if_icmp .gt 5, 3) := by decide +kernel
theorem d2_56 : decode method_2_code 56 = .ok (.iconst 1, 1) := by decide +kernel
theorem d2_57 : decode method_2_code 57 = .ok (.ireturn, 1) := by decide +kernel
theorem d2_58 : decode method_2_code 58 = .ok (.iload_n 0, 1) := by decide +kernel
theorem d2_59 : decode method_2_code 59 = .ok (.ldc 10, 2) := by decide +kernel
theorem d2_61 : decode method_2_code 61 = .ok (.if_icmp .eq 9, 3) := by decide +kernel
theorem d2_64 : decode method_2_code 64 = .ok (.iload_n 0, 1) := by decide +kernel
theorem d2_65 : decode method_2_code 65 = .ok (.ldc 11, 2) := by decide +kernel
theorem d2_67 : decode method_2_code 67 = .ok (.if_icmp .ne 7, 3) := by decide +kernel
theorem d2_70 : decode method_2_code 70 = .ok (.iconst 1, 1) := by decide +kernel
theorem d2_71 : decode method_2_code 71 = .ok (.goto 4, 3) := by decide +kernel
theorem d2_74 : decode method_2_code 74 = .ok (.iconst 0, 1) := by decide +kernel
theorem d2_75 : decode method_2_code 75 = .ok (.ireturn, 1) := by decide +kernel
theorem pn_1 : plainName "com/example/coralline/coralline/xer/TextEncoderIsXmlCharacterPinLaw" = true := by first | (simp [plainName, overriddenIn]; done) | decide +kernel
abbrev mN_2 : MethodName := ⟨"com/example/coralline/coralline/xer/TextEncoderIsXmlCharacterPinLaw", "forbidden", "(I)Z"⟩
theorem pd_0 : parseMethodDescriptor "(I)Z" = some ⟨[.int], some .boolean⟩ := by decide +kernel
theorem ef_1 (m : MethodId) (x0 : Int32) : entryFrame m #[(.int x0)] 1 = mkF m 0 #[.val (.int x0)] [] := by first | (simp [entryFrame, mkF, argsToLocals, Value.category]; done) | rfl
def Q1 (Z : State) (x : Int32) (h0 : Heap) (n0 : Nat) (v : Option Value) (h : Heap) (L : List Loc) : Prop := ∃ z : Int32, v = some (.int z) ∧ (z.toInt = own_b (x.toInt = 9 ∨ x.toInt = 10 ∨ x.toInt = 13 ∨ (32 ≤ x.toInt ∧ x.toInt ≤ 55295) ∨ (57344 ≤ x.toInt ∧ x.toInt ≤ 65533) ∨ (65536 ≤ x.toInt ∧ x.toInt ≤ 1114111)) ∧ 0 ≤ z.toInt ∧ z.toInt ≤ 1) ∧ Fr n0 L ∧ h = h0
set_option maxRecDepth 65536 in
set_option maxHeartbeats 40000000 in
theorem rm1 (l : Launch) (Z : State) (a0 : Array Value) (hw : ∀ d ∈ tables_1, d.before a0 Z = true) (ws : List Jvm.Cond) (x : Int32) (h0 : Heap) (n0 : Nat) (Z0 : n0 ≤ h0.size) :
    CT l mN_1 prog_106_method_46_code 1 (some .boolean) ws ({ frames := 0, cells := 0, slots := 0, locals := 0 } : Room) #[(.int x)] Z h0 (Q1 Z x h0 n0) := by
  refine body_of (plainFor_of_name pn_0) ?_
  intro p e s m below meth c s₁ hx dB hret hlk hml hown0 hnm X0 e0 hZ
  have hown : s.vm.findClass cN_0 = some m.cls := hown0
  have N0 := Fr.nil n0
  rw [ef_1]
  show Wk p e below (FN s (Q1 Z x h0 n0) 0 0) s₁ (mkF m 0 #[.val (.int x)] [])
  have r_x := rng32 x
  refine w_iloadN X0 hx x (dB d1_0) 1 rfl rfl ?_
  refine w_bipush X0 hx (dB d1_1) 3 rfl (9 : Int32) (by decide) ?_
  refine w_icmp_eq X0 hx x.toInt 9 rfl (by decide) (dB d1_3) 59 6 (fun c1 => ?_) (fun c1 => ?_)
  ·refine w_iconst X0 hx (dB d1_59) 60 rfl (1 : Int32) (by decide) ?_
   refine w_goto X0 hx (dB d1_60) 64 ?_
   refine w_retN X0 hx hlk (t := .boolean) hret (by simp) (dB d1_64) (by decide) (by decide) ?_
   rw [e0]
   exact ⟨(1 : Int32), rfl, by have hz : (1 : Int32).toInt = 1 := (by decide); have q : own_b (x.toInt = 9 ∨ x.toInt = 10 ∨ x.toInt = 13 ∨ (32 ≤ x.toInt ∧ x.toInt ≤ 55295) ∨ (57344 ≤ x.toInt ∧ x.toInt ≤ 65533) ∨ (65536 ≤ x.toInt ∧ x.toInt ≤ 1114111)) = 1 := own_b_pos (by omega); refine ⟨?_, ?_, ?_⟩ <;> omega, N0, rfl⟩
  ·refine w_iloadN X0 hx x (dB d1_6) 7 rfl rfl ?_
   refine w_bipush X0 hx (dB d1_7) 9 rfl (10 : Int32) (by decide) ?_
   refine w_icmp_eq X0 hx x.toInt 10 rfl (by decide) (dB d1_9) 59 12 (fun c2 => ?_) (fun c2 => ?_)
   ·refine w_iconst X0 hx (dB d1_59) 60 rfl (1 : Int32) (by decide) ?_
    refine w_goto X0 hx (dB d1_60) 64 ?_
    refine w_retN X0 hx hlk (t := .boolean) hret (by simp) (dB d1_64) (by decide) (by decide) ?_
    rw [e0]
    exact ⟨(1 : Int32), rfl, by have hz : (1 : Int32).toInt = 1 := (by decide); have q : own_b (x.toInt = 9 ∨ x.toInt = 10 ∨ x.toInt = 13 ∨ (32 ≤ x.toInt ∧ x.toInt ≤ 55295) ∨ (57344 ≤ x.toInt ∧ x.toInt ≤ 65533) ∨ (65536 ≤ x.toInt ∧ x.toInt ≤ 1114111)) = 1 := own_b_pos (by omega); refine ⟨?_, ?_, ?_⟩ <;> omega, N0, rfl⟩
   ·refine w_iloadN X0 hx x (dB d1_12) 13 rfl rfl ?_
    refine w_bipush X0 hx (dB d1_13) 15 rfl (13 : Int32) (by decide) ?_
    refine w_icmp_eq X0 hx x.toInt 13 rfl (by decide) (dB d1_15) 59 18 (fun c3 => ?_) (fun c3 => ?_)
    ·refine w_iconst X0 hx (dB d1_59) 60 rfl (1 : Int32) (by decide) ?_
     refine w_goto X0 hx (dB d1_60) 64 ?_
     refine w_retN X0 hx hlk (t := .boolean) hret (by simp) (dB d1_64) (by decide) (by decide) ?_
     rw [e0]
     exact ⟨(1 : Int32), rfl, by have hz : (1 : Int32).toInt = 1 := (by decide); have q : own_b (x.toInt = 9 ∨ x.toInt = 10 ∨ x.toInt = 13 ∨ (32 ≤ x.toInt ∧ x.toInt ≤ 55295) ∨ (57344 ≤ x.toInt ∧ x.toInt ≤ 65533) ∨ (65536 ≤ x.toInt ∧ x.toInt ≤ 1114111)) = 1 := own_b_pos (by omega); refine ⟨?_, ?_, ?_⟩ <;> omega, N0, rfl⟩
    ·refine w_iloadN X0 hx x (dB d1_18) 19 rfl rfl ?_
     refine w_bipush X0 hx (dB d1_19) 21 rfl (32 : Int32) (by decide) ?_
     refine w_icmp_lt X0 hx x.toInt 32 rfl (by decide) (dB d1_21) 31 24 (fun c4 => ?_) (fun c4 => ?_)
     ·refine w_iloadN X0 hx x (dB d1_31) 32 rfl rfl ?_
      refine w_ldcw X0 hx hZ hown (tw_15 hw) (dB d1_32) 35 rfl ?_
      refine w_icmp_lt X0 hx x.toInt 57344 rfl (by decide) (dB d1_35) 45 38 (fun c5 => ?_) (fun c5 => ?_)
      ·refine w_iloadN X0 hx x (dB d1_45) 46 rfl rfl ?_
       refine w_ldcw X0 hx hZ hown (tw_16 hw) (dB d1_46) 49 rfl ?_
       refine w_icmp_lt X0 hx x.toInt 65536 rfl (by decide) (dB d1_49) 63 52 (fun c6 => ?_) (fun c6 => ?_)
       ·refine w_iconst X0 hx (dB d1_63) 64 rfl (0 : Int32) (by decide) ?_
        refine w_retN X0 hx hlk (t := .boolean) hret (by simp) (dB d1_64) (by decide) (by decide) ?_
        rw [e0]
        exact ⟨(0 : Int32), rfl, by have hz : (0 : Int32).toInt = 0 := (by decide); have q : own_b (x.toInt = 9 ∨ x.toInt = 10 ∨ x.toInt = 13 ∨ (32 ≤ x.toInt ∧ x.toInt ≤ 55295) ∨ (57344 ≤ x.toInt ∧ x.toInt ≤ 65533) ∨ (65536 ≤ x.toInt ∧ x.toInt ≤ 1114111)) = 0 := own_b_neg (by omega); refine ⟨?_, ?_, ?_⟩ <;> omega, N0, rfl⟩
       ·exfalso; omega
      ·exfalso; omega
     ·refine w_iloadN X0 hx x (dB d1_24) 25 rfl rfl ?_
      refine w_ldcw X0 hx hZ hown (tw_21 hw) (dB d1_25) 28 rfl ?_
      refine w_icmp_le X0 hx x.toInt 55295 rfl (by decide) (dB d1_28) 59 31 (fun c7 => ?_) (fun c7 => ?_)
      ·refine w_iconst X0 hx (dB d1_59) 60 rfl (1 : Int32) (by decide) ?_
       refine w_goto X0 hx (dB d1_60) 64 ?_
       refine w_retN X0 hx hlk (t := .boolean) hret (by simp) (dB d1_64) (by decide) (by decide) ?_
       rw [e0]
       exact ⟨(1 : Int32), rfl, by have hz : (1 : Int32).toInt = 1 := (by decide); have q : own_b (x.toInt = 9 ∨ x.toInt = 10 ∨ x.toInt = 13 ∨ (32 ≤ x.toInt ∧ x.toInt ≤ 55295) ∨ (57344 ≤ x.toInt ∧ x.toInt ≤ 65533) ∨ (65536 ≤ x.toInt ∧ x.toInt ≤ 1114111)) = 1 := own_b_pos (by omega); refine ⟨?_, ?_, ?_⟩ <;> omega, N0, rfl⟩
      ·refine w_iloadN X0 hx x (dB d1_31) 32 rfl rfl ?_
       refine w_ldcw X0 hx hZ hown (tw_15 hw) (dB d1_32) 35 rfl ?_
       refine w_icmp_lt X0 hx x.toInt 57344 rfl (by decide) (dB d1_35) 45 38 (fun c8 => ?_) (fun c8 => ?_)
       ·refine w_iloadN X0 hx x (dB d1_45) 46 rfl rfl ?_
        refine w_ldcw X0 hx hZ hown (tw_16 hw) (dB d1_46) 49 rfl ?_
        refine w_icmp_lt X0 hx x.toInt 65536 rfl (by decide) (dB d1_49) 63 52 (fun c9 => ?_) (fun c9 => ?_)
        ·refine w_iconst X0 hx (dB d1_63) 64 rfl (0 : Int32) (by decide) ?_
         refine w_retN X0 hx hlk (t := .boolean) hret (by simp) (dB d1_64) (by decide) (by decide) ?_
         rw [e0]
         exact ⟨(0 : Int32), rfl, by have hz : (0 : Int32).toInt = 0 := (by decide); have q : own_b (x.toInt = 9 ∨ x.toInt = 10 ∨ x.toInt = 13 ∨ (32 ≤ x.toInt ∧ x.toInt ≤ 55295) ∨ (57344 ≤ x.toInt ∧ x.toInt ≤ 65533) ∨ (65536 ≤ x.toInt ∧ x.toInt ≤ 1114111)) = 0 := own_b_neg (by omega); refine ⟨?_, ?_, ?_⟩ <;> omega, N0, rfl⟩
        ·exfalso; omega
       ·refine w_iloadN X0 hx x (dB d1_38) 39 rfl rfl ?_
        refine w_ldcw X0 hx hZ hown (tw_23 hw) (dB d1_39) 42 rfl ?_
        refine w_icmp_le X0 hx x.toInt 65533 rfl (by decide) (dB d1_42) 59 45 (fun c10 => ?_) (fun c10 => ?_)
        ·refine w_iconst X0 hx (dB d1_59) 60 rfl (1 : Int32) (by decide) ?_
         refine w_goto X0 hx (dB d1_60) 64 ?_
         refine w_retN X0 hx hlk (t := .boolean) hret (by simp) (dB d1_64) (by decide) (by decide) ?_
         rw [e0]
         exact ⟨(1 : Int32), rfl, by have hz : (1 : Int32).toInt = 1 := (by decide); have q : own_b (x.toInt = 9 ∨ x.toInt = 10 ∨ x.toInt = 13 ∨ (32 ≤ x.toInt ∧ x.toInt ≤ 55295) ∨ (57344 ≤ x.toInt ∧ x.toInt ≤ 65533) ∨ (65536 ≤ x.toInt ∧ x.toInt ≤ 1114111)) = 1 := own_b_pos (by omega); refine ⟨?_, ?_, ?_⟩ <;> omega, N0, rfl⟩
        ·refine w_iloadN X0 hx x (dB d1_45) 46 rfl rfl ?_
         refine w_ldcw X0 hx hZ hown (tw_16 hw) (dB d1_46) 49 rfl ?_
         refine w_icmp_lt X0 hx x.toInt 65536 rfl (by decide) (dB d1_49) 63 52 (fun c11 => ?_) (fun c11 => ?_)
         ·refine w_iconst X0 hx (dB d1_63) 64 rfl (0 : Int32) (by decide) ?_
          refine w_retN X0 hx hlk (t := .boolean) hret (by simp) (dB d1_64) (by decide) (by decide) ?_
          rw [e0]
          exact ⟨(0 : Int32), rfl, by have hz : (0 : Int32).toInt = 0 := (by decide); have q : own_b (x.toInt = 9 ∨ x.toInt = 10 ∨ x.toInt = 13 ∨ (32 ≤ x.toInt ∧ x.toInt ≤ 55295) ∨ (57344 ≤ x.toInt ∧ x.toInt ≤ 65533) ∨ (65536 ≤ x.toInt ∧ x.toInt ≤ 1114111)) = 0 := own_b_neg (by omega); refine ⟨?_, ?_, ?_⟩ <;> omega, N0, rfl⟩
         ·refine w_iloadN X0 hx x (dB d1_52) 53 rfl rfl ?_
          refine w_ldcw X0 hx hZ hown (tw_24 hw) (dB d1_53) 56 rfl ?_
          refine w_icmp_gt X0 hx x.toInt 1114111 rfl (by decide) (dB d1_56) 63 59 (fun c12 => ?_) (fun c12 => ?_)
          ·refine w_iconst X0 hx (dB d1_63) 64 rfl (0 : Int32) (by decide) ?_
           refine w_retN X0 hx hlk (t := .boolean) hret (by simp) (dB d1_64) (by decide) (by decide) ?_
           rw [e0]
           exact ⟨(0 : Int32), rfl, by have hz : (0 : Int32).toInt = 0 := (by decide); have q : own_b (x.toInt = 9 ∨ x.toInt = 10 ∨ x.toInt = 13 ∨ (32 ≤ x.toInt ∧ x.toInt ≤ 55295) ∨ (57344 ≤ x.toInt ∧ x.toInt ≤ 65533) ∨ (65536 ≤ x.toInt ∧ x.toInt ≤ 1114111)) = 0 := own_b_neg (by omega); refine ⟨?_, ?_, ?_⟩ <;> omega, N0, rfl⟩
          ·refine w_iconst X0 hx (dB d1_59) 60 rfl (1 : Int32) (by decide) ?_
           refine w_goto X0 hx (dB d1_60) 64 ?_
           refine w_retN X0 hx hlk (t := .boolean) hret (by simp) (dB d1_64) (by decide) (by decide) ?_
           rw [e0]
           exact ⟨(1 : Int32), rfl, by have hz : (1 : Int32).toInt = 1 := (by decide); have q : own_b (x.toInt = 9 ∨ x.toInt = 10 ∨ x.toInt = 13 ∨ (32 ≤ x.toInt ∧ x.toInt ≤ 55295) ∨ (57344 ≤ x.toInt ∧ x.toInt ≤ 65533) ∨ (65536 ≤ x.toInt ∧ x.toInt ≤ 1114111)) = 1 := own_b_pos (by omega); refine ⟨?_, ?_, ?_⟩ <;> omega, N0, rfl⟩
theorem ef_2 (m : MethodId) (x0 : Int32) : entryFrame m #[(.int x0)] 1 = mkF m 0 #[.val (.int x0)] [] := by first | (simp [entryFrame, mkF, argsToLocals, Value.category]; done) | rfl
def Q2 (Z : State) (x : Int32) (h0 : Heap) (n0 : Nat) (v : Option Value) (h : Heap) (L : List Loc) : Prop := ∃ z : Int32, v = some (.int z) ∧ (z.toInt = 1 - own_b (x.toInt = 9 ∨ x.toInt = 10 ∨ x.toInt = 13 ∨ (32 ≤ x.toInt ∧ x.toInt ≤ 55295) ∨ (57344 ≤ x.toInt ∧ x.toInt ≤ 65533) ∨ (65536 ≤ x.toInt ∧ x.toInt ≤ 1114111)) ∧ 0 ≤ z.toInt ∧ z.toInt ≤ 1) ∧ Fr n0 L ∧ h = h0
set_option maxRecDepth 65536 in
set_option maxHeartbeats 40000000 in
theorem rm2 (l : Launch) (Z : State) (a0 : Array Value) (hw : ∀ d ∈ tables_1, d.before a0 Z = true) (ws : List Jvm.Cond) (x : Int32) (h0 : Heap) (n0 : Nat) (Z0 : n0 ≤ h0.size) :
    CT l mN_2 method_2_code 1 (some .boolean) ws ({ frames := 0, cells := 0, slots := 0, locals := 0 } : Room) #[(.int x)] Z h0 (Q2 Z x h0 n0) := by
  refine body_of (plainFor_of_name pn_1) ?_
  intro p e s m below meth c s₁ hx dB hret hlk hml hown0 hnm X0 e0 hZ
  have hown : s.vm.findClass cN_1 = some m.cls := hown0
  have N0 := Fr.nil n0
  rw [ef_2]
  show Wk p e below (FN s (Q2 Z x h0 n0) 0 0) s₁ (mkF m 0 #[.val (.int x)] [])
  have r_x := rng32 x
  refine w_iloadN X0 hx x (dB d2_0) 1 rfl rfl ?_
  refine w_if_ge X0 hx x.toInt rfl (dB d2_1) 6 4 (fun c13 => ?_) (fun c13 => ?_)
  ·refine w_iloadN X0 hx x (dB d2_6) 7 rfl rfl ?_
   refine w_ldc X0 hx hZ hown (tw_8 hw) (dB d2_7) 9 rfl ?_
   refine w_icmp_le X0 hx x.toInt 1114111 rfl (by decide) (dB d2_9) 14 12 (fun c14 => ?_) (fun c14 => ?_)
   ·refine w_iloadN X0 hx x (dB d2_14) 15 rfl rfl ?_
    refine w_bipush X0 hx (dB d2_15) 17 rfl (32 : Int32) (by decide) ?_
    refine w_icmp_ge X0 hx x.toInt 32 rfl (by decide) (dB d2_17) 44 20 (fun c15 => ?_) (fun c15 => ?_)
    ·refine w_iloadN X0 hx x (dB d2_44) 45 rfl rfl ?_
     refine w_ldc X0 hx hZ hown (tw_2 hw) (dB d2_45) 47 rfl ?_
     refine w_icmp_lt X0 hx x.toInt 55296 rfl (by decide) (dB d2_47) 58 50 (fun c16 => ?_) (fun c16 => ?_)
     ·refine w_iloadN X0 hx x (dB d2_58) 59 rfl rfl ?_
      refine w_ldc X0 hx hZ hown (tw_22 hw) (dB d2_59) 61 rfl ?_
      refine w_icmp_eq X0 hx x.toInt 65534 rfl (by decide) (dB d2_61) 70 64 (fun c17 => ?_) (fun c17 => ?_)
      ·exfalso; omega
      ·refine w_iloadN X0 hx x (dB d2_64) 65 rfl rfl ?_
       refine w_ldc X0 hx hZ hown (tw_6 hw) (dB d2_65) 67 rfl ?_
       refine w_icmp_ne X0 hx x.toInt 65535 rfl (by decide) (dB d2_67) 74 70 (fun c18 => ?_) (fun c18 => ?_)
       ·refine w_iconst X0 hx (dB d2_74) 75 rfl (0 : Int32) (by decide) ?_
        refine w_retN X0 hx hlk (t := .boolean) hret (by simp) (dB d2_75) (by decide) (by decide) ?_
        rw [e0]
        exact ⟨(0 : Int32), rfl, by have hz : (0 : Int32).toInt = 0 := (by decide); have q : own_b (x.toInt = 9 ∨ x.toInt = 10 ∨ x.toInt = 13 ∨ (32 ≤ x.toInt ∧ x.toInt ≤ 55295) ∨ (57344 ≤ x.toInt ∧ x.toInt ≤ 65533) ∨ (65536 ≤ x.toInt ∧ x.toInt ≤ 1114111)) = 1 := own_b_pos (by omega); refine ⟨?_, ?_, ?_⟩ <;> omega, N0, rfl⟩
       ·exfalso; omega
     ·refine w_iloadN X0 hx x (dB d2_50) 51 rfl rfl ?_
      refine w_ldc X0 hx hZ hown (tw_3 hw) (dB d2_51) 53 rfl ?_
      refine w_icmp_gt X0 hx x.toInt 57343 rfl (by decide) (dB d2_53) 58 56 (fun c19 => ?_) (fun c19 => ?_)
      ·refine w_iloadN X0 hx x (dB d2_58) 59 rfl rfl ?_
       refine w_ldc X0 hx hZ hown (tw_22 hw) (dB d2_59) 61 rfl ?_
       refine w_icmp_eq X0 hx x.toInt 65534 rfl (by decide) (dB d2_61) 70 64 (fun c20 => ?_) (fun c20 => ?_)
       ·refine w_iconst X0 hx (dB d2_70) 71 rfl (1 : Int32) (by decide) ?_
        refine w_goto X0 hx (dB d2_71) 75 ?_
        refine w_retN X0 hx hlk (t := .boolean) hret (by simp) (dB d2_75) (by decide) (by decide) ?_
        rw [e0]
        exact ⟨(1 : Int32), rfl, by have hz : (1 : Int32).toInt = 1 := (by decide); have q : own_b (x.toInt = 9 ∨ x.toInt = 10 ∨ x.toInt = 13 ∨ (32 ≤ x.toInt ∧ x.toInt ≤ 55295) ∨ (57344 ≤ x.toInt ∧ x.toInt ≤ 65533) ∨ (65536 ≤ x.toInt ∧ x.toInt ≤ 1114111)) = 0 := own_b_neg (by omega); refine ⟨?_, ?_, ?_⟩ <;> omega, N0, rfl⟩
       ·refine w_iloadN X0 hx x (dB d2_64) 65 rfl rfl ?_
        refine w_ldc X0 hx hZ hown (tw_6 hw) (dB d2_65) 67 rfl ?_
        refine w_icmp_ne X0 hx x.toInt 65535 rfl (by decide) (dB d2_67) 74 70 (fun c21 => ?_) (fun c21 => ?_)
        ·refine w_iconst X0 hx (dB d2_74) 75 rfl (0 : Int32) (by decide) ?_
         refine w_retN X0 hx hlk (t := .boolean) hret (by simp) (dB d2_75) (by decide) (by decide) ?_
         rw [e0]
         exact ⟨(0 : Int32), rfl, by have hz : (0 : Int32).toInt = 0 := (by decide); have q : own_b (x.toInt = 9 ∨ x.toInt = 10 ∨ x.toInt = 13 ∨ (32 ≤ x.toInt ∧ x.toInt ≤ 55295) ∨ (57344 ≤ x.toInt ∧ x.toInt ≤ 65533) ∨ (65536 ≤ x.toInt ∧ x.toInt ≤ 1114111)) = 1 := own_b_pos (by omega); refine ⟨?_, ?_, ?_⟩ <;> omega, N0, rfl⟩
        ·refine w_iconst X0 hx (dB d2_70) 71 rfl (1 : Int32) (by decide) ?_
         refine w_goto X0 hx (dB d2_71) 75 ?_
         refine w_retN X0 hx hlk (t := .boolean) hret (by simp) (dB d2_75) (by decide) (by decide) ?_
         rw [e0]
         exact ⟨(1 : Int32), rfl, by have hz : (1 : Int32).toInt = 1 := (by decide); have q : own_b (x.toInt = 9 ∨ x.toInt = 10 ∨ x.toInt = 13 ∨ (32 ≤ x.toInt ∧ x.toInt ≤ 55295) ∨ (57344 ≤ x.toInt ∧ x.toInt ≤ 65533) ∨ (65536 ≤ x.toInt ∧ x.toInt ≤ 1114111)) = 0 := own_b_neg (by omega); refine ⟨?_, ?_, ?_⟩ <;> omega, N0, rfl⟩
      ·refine w_iconst X0 hx (dB d2_56) 57 rfl (1 : Int32) (by decide) ?_
       refine w_retN X0 hx hlk (t := .boolean) hret (by simp) (dB d2_57) (by decide) (by decide) ?_
       rw [e0]
       exact ⟨(1 : Int32), rfl, by have hz : (1 : Int32).toInt = 1 := (by decide); have q : own_b (x.toInt = 9 ∨ x.toInt = 10 ∨ x.toInt = 13 ∨ (32 ≤ x.toInt ∧ x.toInt ≤ 55295) ∨ (57344 ≤ x.toInt ∧ x.toInt ≤ 65533) ∨ (65536 ≤ x.toInt ∧ x.toInt ≤ 1114111)) = 0 := own_b_neg (by omega); refine ⟨?_, ?_, ?_⟩ <;> omega, N0, rfl⟩
    ·refine w_iloadN X0 hx x (dB d2_20) 21 rfl rfl ?_
     refine w_bipush X0 hx (dB d2_21) 23 rfl (9 : Int32) (by decide) ?_
     refine w_icmp_eq X0 hx x.toInt 9 rfl (by decide) (dB d2_23) 42 26 (fun c22 => ?_) (fun c22 => ?_)
     ·refine w_iconst X0 hx (dB d2_42) 43 rfl (0 : Int32) (by decide) ?_
      refine w_retN X0 hx hlk (t := .boolean) hret (by simp) (dB d2_43) (by decide) (by decide) ?_
      rw [e0]
      exact ⟨(0 : Int32), rfl, by have hz : (0 : Int32).toInt = 0 := (by decide); have q : own_b (x.toInt = 9 ∨ x.toInt = 10 ∨ x.toInt = 13 ∨ (32 ≤ x.toInt ∧ x.toInt ≤ 55295) ∨ (57344 ≤ x.toInt ∧ x.toInt ≤ 65533) ∨ (65536 ≤ x.toInt ∧ x.toInt ≤ 1114111)) = 1 := own_b_pos (by omega); refine ⟨?_, ?_, ?_⟩ <;> omega, N0, rfl⟩
     ·refine w_iloadN X0 hx x (dB d2_26) 27 rfl rfl ?_
      refine w_bipush X0 hx (dB d2_27) 29 rfl (10 : Int32) (by decide) ?_
      refine w_icmp_eq X0 hx x.toInt 10 rfl (by decide) (dB d2_29) 42 32 (fun c23 => ?_) (fun c23 => ?_)
      ·refine w_iconst X0 hx (dB d2_42) 43 rfl (0 : Int32) (by decide) ?_
       refine w_retN X0 hx hlk (t := .boolean) hret (by simp) (dB d2_43) (by decide) (by decide) ?_
       rw [e0]
       exact ⟨(0 : Int32), rfl, by have hz : (0 : Int32).toInt = 0 := (by decide); have q : own_b (x.toInt = 9 ∨ x.toInt = 10 ∨ x.toInt = 13 ∨ (32 ≤ x.toInt ∧ x.toInt ≤ 55295) ∨ (57344 ≤ x.toInt ∧ x.toInt ≤ 65533) ∨ (65536 ≤ x.toInt ∧ x.toInt ≤ 1114111)) = 1 := own_b_pos (by omega); refine ⟨?_, ?_, ?_⟩ <;> omega, N0, rfl⟩
      ·refine w_iloadN X0 hx x (dB d2_32) 33 rfl rfl ?_
       refine w_bipush X0 hx (dB d2_33) 35 rfl (13 : Int32) (by decide) ?_
       refine w_icmp_eq X0 hx x.toInt 13 rfl (by decide) (dB d2_35) 42 38 (fun c24 => ?_) (fun c24 => ?_)
       ·refine w_iconst X0 hx (dB d2_42) 43 rfl (0 : Int32) (by decide) ?_
        refine w_retN X0 hx hlk (t := .boolean) hret (by simp) (dB d2_43) (by decide) (by decide) ?_
        rw [e0]
        exact ⟨(0 : Int32), rfl, by have hz : (0 : Int32).toInt = 0 := (by decide); have q : own_b (x.toInt = 9 ∨ x.toInt = 10 ∨ x.toInt = 13 ∨ (32 ≤ x.toInt ∧ x.toInt ≤ 55295) ∨ (57344 ≤ x.toInt ∧ x.toInt ≤ 65533) ∨ (65536 ≤ x.toInt ∧ x.toInt ≤ 1114111)) = 1 := own_b_pos (by omega); refine ⟨?_, ?_, ?_⟩ <;> omega, N0, rfl⟩
       ·refine w_iconst X0 hx (dB d2_38) 39 rfl (1 : Int32) (by decide) ?_
        refine w_goto X0 hx (dB d2_39) 43 ?_
        refine w_retN X0 hx hlk (t := .boolean) hret (by simp) (dB d2_43) (by decide) (by decide) ?_
        rw [e0]
        exact ⟨(1 : Int32), rfl, by have hz : (1 : Int32).toInt = 1 := (by decide); have q : own_b (x.toInt = 9 ∨ x.toInt = 10 ∨ x.toInt = 13 ∨ (32 ≤ x.toInt ∧ x.toInt ≤ 55295) ∨ (57344 ≤ x.toInt ∧ x.toInt ≤ 65533) ∨ (65536 ≤ x.toInt ∧ x.toInt ≤ 1114111)) = 0 := own_b_neg (by omega); refine ⟨?_, ?_, ?_⟩ <;> omega, N0, rfl⟩
   ·refine w_iconst X0 hx (dB d2_12) 13 rfl (1 : Int32) (by decide) ?_
    refine w_retN X0 hx hlk (t := .boolean) hret (by simp) (dB d2_13) (by decide) (by decide) ?_
    rw [e0]
    exact ⟨(1 : Int32), rfl, by have hz : (1 : Int32).toInt = 1 := (by decide); have q : own_b (x.toInt = 9 ∨ x.toInt = 10 ∨ x.toInt = 13 ∨ (32 ≤ x.toInt ∧ x.toInt ≤ 55295) ∨ (57344 ≤ x.toInt ∧ x.toInt ≤ 65533) ∨ (65536 ≤ x.toInt ∧ x.toInt ≤ 1114111)) = 0 := own_b_neg (by omega); refine ⟨?_, ?_, ?_⟩ <;> omega, N0, rfl⟩
  ·refine w_iconst X0 hx (dB d2_4) 5 rfl (1 : Int32) (by decide) ?_
   refine w_retN X0 hx hlk (t := .boolean) hret (by simp) (dB d2_5) (by decide) (by decide) ?_
   rw [e0]
   exact ⟨(1 : Int32), rfl, by have hz : (1 : Int32).toInt = 1 := (by decide); have q : own_b (x.toInt = 9 ∨ x.toInt = 10 ∨ x.toInt = 13 ∨ (32 ≤ x.toInt ∧ x.toInt ≤ 55295) ∨ (57344 ≤ x.toInt ∧ x.toInt ≤ 65533) ∨ (65536 ≤ x.toInt ∧ x.toInt ≤ 1114111)) = 0 := own_b_neg (by omega); refine ⟨?_, ?_, ?_⟩ <;> omega, N0, rfl⟩
theorem ef_0 (m : MethodId) (x0 : Int32) (x1 : Int32) (x2 : Int32) : entryFrame m #[(.int x0), (.int x1), (.int x2)] maxLocals = mkF m 0 #[.val (.int x0), .val (.int x1), .val (.int x2), .unset, .unset] [] := by first | (simp [entryFrame, mkF, argsToLocals, Value.category, maxLocals]; done) | rfl
def Q0 (Z : State) (xx : Int32) (sel : Int32) (off : Int32) (h0 : Heap) (n0 : Nat) (v : Option Value) (h : Heap) (L : List Loc) : Prop := v = some (.int 1) ∧ Fr n0 L
set_option maxRecDepth 65536 in
set_option maxHeartbeats 40000000 in
theorem rm0 (l : Launch) (Z : State) (a0 : Array Value) (hw : ∀ d ∈ tables_1, d.before a0 Z = true) (ws : List Jvm.Cond) (xx : Int32) (sel : Int32) (off : Int32) (h0 : Heap) (n0 : Nat) (Z0 : n0 ≤ h0.size) :
    MetFree l x (head1 (Jvm.Cond.code x code maxLocals ret :: ws) room_1) (fun as_ U => as_ = #[(.int xx), (.int sel), (.int off)] ∧ Z.Warmed39 U.vm ∧ U.heap = h0) (fun _ _ _ _ _ => True) (fun _ U o U' => ∃ v L, o = .returned v ∧ Q0 Z xx sel off h0 n0 v U'.heap L ∧ FrameEnd U o U' L 1 16) := by
  refine body_of (plainFor_of_name pn_1) ?_
  intro p e s m below meth c s₁ hx dB hret hlk hml hown0 hnm X0 e0 hZ
  have hown : s.vm.findClass cN_1 = some m.cls := hown0
  have N0 := Fr.nil n0
  rw [ef_0]
  show Wk p e below (FN s (Q0 Z xx sel off h0 n0) 1 16) s₁ (mkF m 0 #[.val (.int xx), .val (.int sel), .val (.int off), .unset, .unset] [])
  have r_xx := rng32 xx
  have r_sel := rng32 sel
  have r_off := rng32 off
  refine w_bipush X0 hx (dB at_0) 2 rfl (16 : Int32) (by decide) ?_
  refine w_newP X0 hx hZ e0 (aty := .int) (tw_0 hw) (by decide) 16 (by decide) (by decide) (by decide) (by decide) (dB at_2) 4 rfl (fun T25 h25 a25 k25 X25 e25 g25 E25 A25 => ?_)
  have g_a25 : n0 ≤ a25 := Nat.le_trans Z0 (Nat.le_of_eq g25.symm)
  have s_a25 : h0.size ≤ a25 := Nat.le_trans (Keep.refl h0 []).1 (Nat.le_of_eq g25.symm)
  have Z25 : n0 ≤ h25.size := Nat.le_trans Z0 E25.1
  have K25 : Keep h0 h25 [] := (Keep.refl h0 []).ext E25
  have V25 : Arv Z h25 a25 k25 .int (16 : Int32) [(.int (0 : Int32)), (.int (0 : Int32)), (.int (0 : Int32)), (.int (0 : Int32)), (.int (0 : Int32)), (.int (0 : Int32)), (.int (0 : Int32)), (.int (0 : Int32)), (.int (0 : Int32)), (.int (0 : Int32)), (.int (0 : Int32)), (.int (0 : Int32)), (.int (0 : Int32)), (.int (0 : Int32)), (.int (0 : Int32)), (.int (0 : Int32))] (.int (0 : Int32)) := A25.pad (pad_rep [] (.int (0 : Int32)) 16)
  refine w_dup X25 hx (dB at_4) 5 rfl rfl ?_
  refine w_iconst X25 hx (dB at_5) 6 rfl (0 : Int32) (by decide) ?_
  refine w_iconst X25 hx (dB at_6) 7 rfl (0 : Int32) (by decide) ?_
  refine w_iastore X25 hx hZ e25 V25 ⟨by decide, by decide⟩ 0 (by decide) (by decide) (dB at_7) 8 rfl (fun T26 h26 X26 e26 W26 V26 => ?_)
  have F27 : Arv Z h26 a25 k25 .int (16 : Int32) [(.int (0 : Int32)), (.int (0 : Int32)), (.int (0 : Int32)), (.int (0 : Int32)), (.int (0 : Int32)), (.int (0 : Int32)), (.int (0 : Int32)), (.int (0 : Int32)), (.int (0 : Int32)), (.int (0 : Int32)), (.int (0 : Int32)), (.int (0 : Int32)), (.int (0 : Int32)), (.int (0 : Int32)), (.int (0 : Int32)), (.int (0 : Int32))] (.int (0 : Int32)) := V26
  have Z26 : n0 ≤ h26.size := by rw [W26.size]; exact Z25
  have K26 : Keep h0 h26 [] := K25.wr W26 (Or.inr s_a25)
  have N26 := Fr.snoc X26 N0 g_a25
  refine w_dup X26 hx (dB at_8) 9 rfl rfl ?_
  refine w_iconst X26 hx (dB at_9) 10 rfl (1 : Int32) (by decide) ?_
  refine w_bipush X26 hx (dB at_10) 12 rfl (9 : Int32) (by decide) ?_
  refine w_iastore X26 hx hZ e26 F27 ⟨by decide, by decide⟩ 1 (by decide) (by decide) (dB at_12) 13 rfl (fun T28 h28 X28 e28 W28 V28 => ?_)
  have F29 : Arv Z h28 a25 k25 .int (16 : Int32) [(.int (0 : Int32)), (.int (9 : Int32)), (.int (0 : Int32)), (.int (0 : Int32)), (.int (0 : Int32)), (.int (0 : Int32)), (.int (0 : Int32)), (.int (0 : Int32)), (.int (0 : Int32)), (.int (0 : Int32)), (.int (0 : Int32)), (.int (0 : Int32)), (.int (0 : Int32)), (.int (0 : Int32)), (.int (0 : Int32)), (.int (0 : Int32))] (.int (0 : Int32)) := V28
  have Z28 : n0 ≤ h28.size := by rw [W28.size]; exact Z26
  have K28 : Keep h0 h28 [] := K26.wr W28 (Or.inr s_a25)
  have N28 := Fr.snoc X28 N26 g_a25
  refine w_dup X28 hx (dB at_13) 14 rfl rfl ?_
  refine w_iconst X28 hx (dB at_14) 15 rfl (2 : Int32) (by decide) ?_
  refine w_bipush X28 hx (dB at_15) 17 rfl (10 : Int32) (by decide) ?_
  refine w_iastore X28 hx hZ e28 F29 ⟨by decide, by decide⟩ 2 (by decide) (by decide) (dB at_17) 18 rfl (fun T30 h30 X30 e30 W30 V30 => ?_)
  have F31 : Arv Z h30 a25 k25 .int (16 : Int32) [(.int (0 : Int32)), (.int (9 : Int32)), (.int (10 : Int32)), (.int (0 : Int32)), (.int (0 : Int32)), (.int (0 : Int32)), (.int (0 : Int32)), (.int (0 : Int32)), (.int (0 : Int32)), (.int (0 : Int32)), (.int (0 : Int32)), (.int (0 : Int32)), (.int (0 : Int32)), (.int (0 : Int32)), (.int (0 : Int32)), (.int (0 : Int32))] (.int (0 : Int32)) := V30
  have Z30 : n0 ≤ h30.size := by rw [W30.size]; exact Z28
  have K30 : Keep h0 h30 [] := K28.wr W30 (Or.inr s_a25)
  have N30 := Fr.snoc X30 N28 g_a25
  refine w_dup X30 hx (dB at_18) 19 rfl rfl ?_
  refine w_iconst X30 hx (dB at_19) 20 rfl (3 : Int32) (by decide) ?_
  refine w_bipush X30 hx (dB at_20) 22 rfl (13 : Int32) (by decide) ?_
  refine w_iastore X30 hx hZ e30 F31 ⟨by decide, by decide⟩ 3 (by decide) (by decide) (dB at_22) 23 rfl (fun T32 h32 X32 e32 W32 V32 => ?_)
  have F33 : Arv Z h32 a25 k25 .int (16 : Int32) [(.int (0 : Int32)), (.int (9 : Int32)), (.int (10 : Int32)), (.int (13 : Int32)), (.int (0 : Int32)), (.int (0 : Int32)), (.int (0 : Int32)), (.int (0 : Int32)), (.int (0 : Int32)), (.int (0 : Int32)), (.int (0 : Int32)), (.int (0 : Int32)), (.int (0 : Int32)), (.int (0 : Int32)), (.int (0 : Int32)), (.int (0 : Int32))] (.int (0 : Int32)) := V32
  have Z32 : n0 ≤ h32.size := by rw [W32.size]; exact Z30
  have K32 : Keep h0 h32 [] := K30.wr W32 (Or.inr s_a25)
  have N32 := Fr.snoc X32 N30 g_a25
  refine w_dup X32 hx (dB at_23) 24 rfl rfl ?_
  refine w_iconst X32 hx (dB at_24) 25 rfl (4 : Int32) (by decide) ?_
  refine w_bipush X32 hx (dB at_25) 27 rfl (32 : Int32) (by decide) ?_
  refine w_iastore X32 hx hZ e32 F33 ⟨by decide, by decide⟩ 4 (by decide) (by decide) (dB at_27) 28 rfl (fun T34 h34 X34 e34 W34 V34 => ?_)
  have F35 : Arv Z h34 a25 k25 .int (16 : Int32) [(.int (0 : Int32)), (.int (9 : Int32)), (.int (10 : Int32)), (.int (13 : Int32)), (.int (32 : Int32)), (.int (0 : Int32)), (.int (0 : Int32)), (.int (0 : Int32)), (.int (0 : Int32)), (.int (0 : Int32)), (.int (0 : Int32)), (.int (0 : Int32)), (.int (0 : Int32)), (.int (0 : Int32)), (.int (0 : Int32)), (.int (0 : Int32))] (.int (0 : Int32)) := V34
  have Z34 : n0 ≤ h34.size := by rw [W34.size]; exact Z32
  have K34 : Keep h0 h34 [] := K32.wr W34 (Or.inr s_a25)
  have N34 := Fr.snoc X34 N32 g_a25
  refine w_dup X34 hx (dB at_28) 29 rfl rfl ?_
  refine w_iconst X34 hx (dB at_29) 30 rfl (5 : Int32) (by decide) ?_
  refine w_bipush X34 hx (dB at_30) 32 rfl (127 : Int32) (by decide) ?_
  refine w_iastore X34 hx hZ e34 F35 ⟨by decide, by decide⟩ 5 (by decide) (by decide) (dB at_32) 33 rfl (fun T36 h36 X36 e36 W36 V36 => ?_)
  have F37 : Arv Z h36 a25 k25 .int (16 : Int32) [(.int (0 : Int32)), (.int (9 : Int32)), (.int (10 : Int32)), (.int (13 : Int32)), (.int (32 : Int32)), (.int (127 : Int32)), (.int (0 : Int32)), (.int (0 : Int32)), (.int (0 : Int32)), (.int (0 : Int32)), (.int (0 : Int32)), (.int (0 : Int32)), (.int (0 : Int32)), (.int (0 : Int32)), (.int (0 : Int32)), (.int (0 : Int32))] (.int (0 : Int32)) := V36
  have Z36 : n0 ≤ h36.size := by rw [W36.size]; exact Z34
  have K36 : Keep h0 h36 [] := K34.wr W36 (Or.inr s_a25)
  have N36 := Fr.snoc X36 N34 g_a25
  refine w_dup X36 hx (dB at_33) 34 rfl rfl ?_
  refine w_bipush X36 hx (dB at_34) 36 rfl (6 : Int32) (by decide) ?_
  refine w_ldc X36 hx hZ hown (tw_1 hw) (dB at_36) 38 rfl ?_
  refine w_iastore X36 hx hZ e36 F37 ⟨by decide, by decide⟩ 6 (by decide) (by decide) (dB at_38) 39 rfl (fun T38 h38 X38 e38 W38 V38 => ?_)
  have F39 : Arv Z h38 a25 k25 .int (16 : Int32) [(.int (0 : Int32)), (.int (9 : Int32)), (.int (10 : Int32)), (.int (13 : Int32)), (.int (32 : Int32)), (.int (127 : Int32)), (.int (55295 : Int32)), (.int (0 : Int32)), (.int (0 : Int32)), (.int (0 : Int32)), (.int (0 : Int32)), (.int (0 : Int32)), (.int (0 : Int32)), (.int (0 : Int32)), (.int (0 : Int32)), (.int (0 : Int32))] (.int (0 : Int32)) := V38
  have Z38 : n0 ≤ h38.size := by rw [W38.size]; exact Z36
  have K38 : Keep h0 h38 [] := K36.wr W38 (Or.inr s_a25)
  have N38 := Fr.snoc X38 N36 g_a25
  refine w_dup X38 hx (dB at_39) 40 rfl rfl ?_
  refine w_bipush X38 hx (dB at_40) 42 rfl (7 : Int32) (by decide) ?_
  refine w_ldc X38 hx hZ hown (tw_2 hw) (dB at_42) 44 rfl ?_
  refine w_iastore X38 hx hZ e38 F39 ⟨by decide, by decide⟩ 7 (by decide) (by decide) (dB at_44) 45 rfl (fun T40 h40 X40 e40 W40 V40 => ?_)
  have F41 : Arv Z h40 a25 k25 .int (16 : Int32) [(.int (0 : Int32)), (.int (9 : Int32)), (.int (10 : Int32)), (.int (13 : Int32)), (.int (32 : Int32)), (.int (127 : Int32)), (.int (55295 : Int32)), (.int (55296 : Int32)), (.int (0 : Int32)), (.int (0 : Int32)), (.int (0 : Int32)), (.int (0 : Int32)), (.int (0 : Int32)), (.int (0 : Int32)), (.int (0 : Int32)), (.int (0 : Int32))] (.int (0 : Int32)) := V40
  have Z40 : n0 ≤ h40.size := by rw [W40.size]; exact Z38
  have K40 : Keep h0 h40 [] := K38.wr W40 (Or.inr s_a25)
  have N40 := Fr.snoc X40 N38 g_a25
  refine w_dup X40 hx (dB at_45) 46 rfl rfl ?_
  refine w_bipush X40 hx (dB at_46) 48 rfl (8 : Int32) (by decide) ?_
  refine w_ldc X40 hx hZ hown (tw_3 hw) (dB at_48) 50 rfl ?_
  refine w_iastore X40 hx hZ e40 F41 ⟨by decide, by decide⟩ 8 (by decide) (by decide) (dB at_50) 51 rfl (fun T42 h42 X42 e42 W42 V42 => ?_)
  have F43 : Arv Z h42 a25 k25 .int (16 : Int32) [(.int (0 : Int32)), (.int (9 : Int32)), (.int (10 : Int32)), (.int (13 : Int32)), (.int (32 : Int32)), (.int (127 : Int32)), (.int (55295 : Int32)), (.int (55296 : Int32)), (.int (57343 : Int32)), (.int (0 : Int32)), (.int (0 : Int32)), (.int (0 : Int32)), (.int (0 : Int32)), (.int (0 : Int32)), (.int (0 : Int32)), (.int (0 : Int32))] (.int (0 : Int32)) := V42
  have Z42 : n0 ≤ h42.size := by rw [W42.size]; exact Z40
  have K42 : Keep h0 h42 [] := K40.wr W42 (Or.inr s_a25)
  have N42 := Fr.snoc X42 N40 g_a25
  refine w_dup X42 hx (dB at_51) 52 rfl rfl ?_
  refine w_bipush X42 hx (dB at_52) 54 rfl (9 : Int32) (by decide) ?_
  refine w_ldc X42 hx hZ hown (tw_4 hw) (dB at_54) 56 rfl ?_
  refine w_iastore X42 hx hZ e42 F43 ⟨by decide, by decide⟩ 9 (by decide) (by decide) (dB at_56) 57 rfl (fun T44 h44 X44 e44 W44 V44 => ?_)
  have F45 : Arv Z h44 a25 k25 .int (16 : Int32) [(.int (0 : Int32)), (.int (9 : Int32)), (.int (10 : Int32)), (.int (13 : Int32)), (.int (32 : Int32)), (.int (127 : Int32)), (.int (55295 : Int32)), (.int (55296 : Int32)), (.int (57343 : Int32)), (.int (57344 : Int32)), (.int (0 : Int32)), (.int (0 : Int32)), (.int (0 : Int32)), (.int (0 : Int32)), (.int (0 : Int32)), (.int (0 : Int32))] (.int (0 : Int32)) := V44
  have Z44 : n0 ≤ h44.size := by rw [W44.size]; exact Z42
  have K44 : Keep h0 h44 [] := K42.wr W44 (Or.inr s_a25)
  have N44 := Fr.snoc X44 N42 g_a25
  refine w_dup X44 hx (dB at_57) 58 rfl rfl ?_
  refine w_bipush X44 hx (dB at_58) 60 rfl (10 : Int32) (by decide) ?_
  refine w_ldc X44 hx hZ hown (tw_5 hw) (dB at_60) 62 rfl ?_
  refine w_iastore X44 hx hZ e44 F45 ⟨by decide, by decide⟩ 10 (by decide) (by decide) (dB at_62) 63 rfl (fun T46 h46 X46 e46 W46 V46 => ?_)
  have F47 : Arv Z h46 a25 k25 .int (16 : Int32) [(.int (0 : Int32)), (.int (9 : Int32)), (.int (10 : Int32)), (.int (13 : Int32)), (.int (32 : Int32)), (.int (127 : Int32)), (.int (55295 : Int32)), (.int (55296 : Int32)), (.int (57343 : Int32)), (.int (57344 : Int32)), (.int (65533 : Int32)), (.int (0 : Int32)), (.int (0 : Int32)), (.int (0 : Int32)), (.int (0 : Int32)), (.int (0 : Int32))] (.int (0 : Int32)) := V46
  have Z46 : n0 ≤ h46.size := by rw [W46.size]; exact Z44
  have K46 : Keep h0 h46 [] := K44.wr W46 (Or.inr s_a25)
  have N46 := Fr.snoc X46 N44 g_a25
  refine w_dup X46 hx (dB at_63) 64 rfl rfl ?_
  refine w_bipush X46 hx (dB at_64) 66 rfl (11 : Int32) (by decide) ?_
  refine w_ldc X46 hx hZ hown (tw_6 hw) (dB at_66) 68 rfl ?_
  refine w_iastore X46 hx hZ e46 F47 ⟨by decide, by decide⟩ 11 (by decide) (by decide) (dB at_68) 69 rfl (fun T48 h48 X48 e48 W48 V48 => ?_)
  have F49 : Arv Z h48 a25 k25 .int (16 : Int32) [(.int (0 : Int32)), (.int (9 : Int32)), (.int (10 : Int32)), (.int (13 : Int32)), (.int (32 : Int32)), (.int (127 : Int32)), (.int (55295 : Int32)), (.int (55296 : Int32)), (.int (57343 : Int32)), (.int (57344 : Int32)), (.int (65533 : Int32)), (.int (65535 : Int32)), (.int (0 : Int32)), (.int (0 : Int32)), (.int (0 : Int32)), (.int (0 : Int32))] (.int (0 : Int32)) := V48
  have Z48 : n0 ≤ h48.size := by rw [W48.size]; exact Z46
  have K48 : Keep h0 h48 [] := K46.wr W48 (Or.inr s_a25)
  have N48 := Fr.snoc X48 N46 g_a25
  refine w_dup X48 hx (dB at_69) 70 rfl rfl ?_
  refine w_bipush X48 hx (dB at_70) 72 rfl (12 : Int32) (by decide) ?_
  refine w_ldc X48 hx hZ hown (tw_7 hw) (dB at_72) 74 rfl ?_
  refine w_iastore X48 hx hZ e48 F49 ⟨by decide, by decide⟩ 12 (by decide) (by decide) (dB at_74) 75 rfl (fun T50 h50 X50 e50 W50 V50 => ?_)
  have F51 : Arv Z h50 a25 k25 .int (16 : Int32) [(.int (0 : Int32)), (.int (9 : Int32)), (.int (10 : Int32)), (.int (13 : Int32)), (.int (32 : Int32)), (.int (127 : Int32)), (.int (55295 : Int32)), (.int (55296 : Int32)), (.int (57343 : Int32)), (.int (57344 : Int32)), (.int (65533 : Int32)), (.int (65535 : Int32)), (.int (65536 : Int32)), (.int (0 : Int32)), (.int (0 : Int32)), (.int (0 : Int32))] (.int (0 : Int32)) := V50
  have Z50 : n0 ≤ h50.size := by rw [W50.size]; exact Z48
  have K50 : Keep h0 h50 [] := K48.wr W50 (Or.inr s_a25)
  have N50 := Fr.snoc X50 N48 g_a25
  refine w_dup X50 hx (dB at_75) 76 rfl rfl ?_
  refine w_bipush X50 hx (dB at_76) 78 rfl (13 : Int32) (by decide) ?_
  refine w_ldc X50 hx hZ hown (tw_8 hw) (dB at_78) 80 rfl ?_
  refine w_iastore X50 hx hZ e50 F51 ⟨by decide, by decide⟩ 13 (by decide) (by decide) (dB at_80) 81 rfl (fun T52 h52 X52 e52 W52 V52 => ?_)
  have F53 : Arv Z h52 a25 k25 .int (16 : Int32) [(.int (0 : Int32)), (.int (9 : Int32)), (.int (10 : Int32)), (.int (13 : Int32)), (.int (32 : Int32)), (.int (127 : Int32)), (.int (55295 : Int32)), (.int (55296 : Int32)), (.int (57343 : Int32)), (.int (57344 : Int32)), (.int (65533 : Int32)), (.int (65535 : Int32)), (.int (65536 : Int32)), (.int (1114111 : Int32)), (.int (0 : Int32)), (.int (0 : Int32))] (.int (0 : Int32)) := V52
  have Z52 : n0 ≤ h52.size := by rw [W52.size]; exact Z50
  have K52 : Keep h0 h52 [] := K50.wr W52 (Or.inr s_a25)
  have N52 := Fr.snoc X52 N50 g_a25
  refine w_dup X52 hx (dB at_81) 82 rfl rfl ?_
  refine w_bipush X52 hx (dB at_82) 84 rfl (14 : Int32) (by decide) ?_
  refine w_ldc X52 hx hZ hown (tw_9 hw) (dB at_84) 86 rfl ?_
  refine w_iastore X52 hx hZ e52 F53 ⟨by decide, by decide⟩ 14 (by decide) (by decide) (dB at_86) 87 rfl (fun T54 h54 X54 e54 W54 V54 => ?_)
  have F55 : Arv Z h54 a25 k25 .int (16 : Int32) [(.int (0 : Int32)), (.int (9 : Int32)), (.int (10 : Int32)), (.int (13 : Int32)), (.int (32 : Int32)), (.int (127 : Int32)), (.int (55295 : Int32)), (.int (55296 : Int32)), (.int (57343 : Int32)), (.int (57344 : Int32)), (.int (65533 : Int32)), (.int (65535 : Int32)), (.int (65536 : Int32)), (.int (1114111 : Int32)), (.int (-2147483648 : Int32)), (.int (0 : Int32))] (.int (0 : Int32)) := V54
  have Z54 : n0 ≤ h54.size := by rw [W54.size]; exact Z52
  have K54 : Keep h0 h54 [] := K52.wr W54 (Or.inr s_a25)
  have N54 := Fr.snoc X54 N52 g_a25
  refine w_dup X54 hx (dB at_87) 88 rfl rfl ?_
  refine w_bipush X54 hx (dB at_88) 90 rfl (15 : Int32) (by decide) ?_
  refine w_ldc X54 hx hZ hown (tw_10 hw) (dB at_90) 92 rfl ?_
  refine w_iastore X54 hx hZ e54 F55 ⟨by decide, by decide⟩ 15 (by decide) (by decide) (dB at_92) 93 rfl (fun T56 h56 X56 e56 W56 V56 => ?_)
  have F57 : Arv Z h56 a25 k25 .int (16 : Int32) [(.int (0 : Int32)), (.int (9 : Int32)), (.int (10 : Int32)), (.int (13 : Int32)), (.int (32 : Int32)), (.int (127 : Int32)), (.int (55295 : Int32)), (.int (55296 : Int32)), (.int (57343 : Int32)), (.int (57344 : Int32)), (.int (65533 : Int32)), (.int (65535 : Int32)), (.int (65536 : Int32)), (.int (1114111 : Int32)), (.int (-2147483648 : Int32)), (.int (2147483647 : Int32))] (.int (0 : Int32)) := V56
  have Z56 : n0 ≤ h56.size := by rw [W56.size]; exact Z54
  have K56 : Keep h0 h56 [] := K54.wr W56 (Or.inr s_a25)
  have N56 := Fr.snoc X56 N54 g_a25
  refine w_astoreN X56 hx (dB at_93) 94 rfl rfl #[.val (.int xx), .val (.int sel), .val (.int off), .val (.ref a25), .unset] rfl ?_
  refine w_iloadN X56 hx sel (dB at_94) 95 rfl rfl ?_
  refine w_iconst X56 hx (dB at_95) 96 rfl (1 : Int32) (by decide) ?_
  obtain ⟨v58, e58⟩ : ∃ z : Int32, z = sel &&& (1 : Int32) := ⟨_, rfl⟩
  have n58 : v58.toInt = sel.toInt % 2 := by rw [e58]; exact maskX 1 rfl (by decide) (by decide)
  refine w_iand X56 hx (dB at_96) 97 rfl e58 ?_
  have J59 : ∀ (j59_0 : Int32), (True) → Wk p e below (FN s (Q0 Z xx sel off h0 n0) 1 16) T56 (mkF m 123 #[.val (.int xx), .val (.int sel), .val (.int off), .val (.ref a25), .val (.int j59_0)] []) := by
   intro j59_0 f59
   refine w_iload X56 hx j59_0 (dB at_123) 125 rfl rfl ?_
   refine w_callS X56 hx hZ hown e56 (rm1 l Z a0 hw [] j59_0 h56 n0 Z56 ) (tw_11 hw) (tw_12 hw) (tw_13 hw) (tw_14 hw) (by decide) (by rw [hml]; rfl) [(.int j59_0)] [] (lenOf pd_0 rfl) rfl rfl (by decide) 0 rfl (by decide) (by decide) (by decide) (dB at_125) 128 rfl (fun r60 T60 L60 X60 q60 => ?_)
   obtain ⟨z60, rfl, f60, Nq60, eq60⟩ := q60
   have N60 := Fr.app N56 Nq60
   dsimp only [Option.toList_some, Option.toList_none, List.cons_append, List.nil_append]
   refine w_iload X60 hx j59_0 (dB at_128) 130 rfl rfl ?_
   refine w_callS X60 hx hZ hown eq60 (rm2 l Z a0 hw [] j59_0 h56 n0 Z56 ) (tw_17 hw) (tw_18 hw) (tw_19 hw) (tw_20 hw) (by decide) (by rw [hml]; rfl) [(.int j59_0)] [(.int z60)] (lenOf pd_0 rfl) rfl rfl (by decide) 1 rfl (by decide) (by decide) (by decide) (dB at_130) 133 rfl (fun r61 T61 L61 X61 q61 => ?_)
   obtain ⟨z61, rfl, f61, Nq61, eq61⟩ := q61
   have N61 := Fr.app N60 Nq61
   dsimp only [Option.toList_some, Option.toList_none, List.cons_append, List.nil_append]
   refine w_if_ne X61 hx z61.toInt rfl (dB at_133) 140 136 (fun c62 => ?_) (fun c62 => ?_)
   ·refine w_iconst X61 hx (dB at_140) 141 rfl (0 : Int32) (by decide) ?_
    refine w_icmp_ne X61 hx z60.toInt 0 rfl (by decide) (dB at_141) 148 144 (fun c63 => ?_) (fun c63 => ?_)
    ·refine w_iconst X61 hx (dB at_148) 149 rfl (0 : Int32) (by decide) ?_
     refine w_retN X61 hx hlk (t := .boolean) hret (by simp) (dB at_149) (by decide) (by decide) ?_
     rw [eq61]
     exfalso; omega
    ·refine w_iconst X61 hx (dB at_144) 145 rfl (1 : Int32) (by decide) ?_
     refine w_goto X61 hx (dB at_145) 149 ?_
     refine w_retN X61 hx hlk (t := .boolean) hret (by simp) (dB at_149) (by decide) (by decide) ?_
     rw [eq61]
     exact ⟨rfl, N61⟩
   ·refine w_iconst X61 hx (dB at_136) 137 rfl (1 : Int32) (by decide) ?_
    refine w_goto X61 hx (dB at_137) 141 ?_
    refine w_icmp_ne X61 hx z60.toInt 1 rfl (by decide) (dB at_141) 148 144 (fun c64 => ?_) (fun c64 => ?_)
    ·refine w_iconst X61 hx (dB at_148) 149 rfl (0 : Int32) (by decide) ?_
     refine w_retN X61 hx hlk (t := .boolean) hret (by simp) (dB at_149) (by decide) (by decide) ?_
     rw [eq61]
     exfalso; omega
    ·refine w_iconst X61 hx (dB at_144) 145 rfl (1 : Int32) (by decide) ?_
     refine w_goto X61 hx (dB at_145) 149 ?_
     refine w_retN X61 hx hlk (t := .boolean) hret (by simp) (dB at_149) (by decide) (by decide) ?_
     rw [eq61]
     exact ⟨rfl, N61⟩
  refine w_if_ne X56 hx v58.toInt rfl (dB at_97) 106 100 (fun c65 => ?_) (fun c65 => ?_)
  ·refine w_aloadN X56 hx (.ref a25) (dB at_106) 107 rfl rfl rfl ?_
   refine w_iloadN X56 hx sel (dB at_107) 108 rfl rfl ?_
   refine w_iconst X56 hx (dB at_108) 109 rfl (1 : Int32) (by decide) ?_
   obtain ⟨v66, e66⟩ : ∃ z : Int32, z = (sel.toUInt32 >>> ((1 : Int32) &&& 31).toUInt32).toInt32 := ⟨_, rfl⟩
   have n66 : v66.toInt = (sel.toInt % 4294967296) / 2 := by rw [e66]; exact iushrX 1 rfl (by decide) (by decide)
   refine w_iushr X56 hx (dB at_109) 110 rfl e66 ?_
   refine w_bipush X56 hx (dB at_110) 112 rfl (15 : Int32) (by decide) ?_
   obtain ⟨v67, e67⟩ : ∃ z : Int32, z = v66 &&& (15 : Int32) := ⟨_, rfl⟩
   have n67 : v67.toInt = v66.toInt % 16 := by rw [e67]; exact maskX 4 rfl (by decide) (by decide)
   refine w_iand X56 hx (dB at_112) 113 rfl e67 ?_
   obtain ⟨v68, e68⟩ : ∃ z : Int32, z = ([(0 : Int32), (9 : Int32), (10 : Int32), (13 : Int32), (32 : Int32), (127 : Int32), (55295 : Int32), (55296 : Int32), (57343 : Int32), (57344 : Int32), (65533 : Int32), (65535 : Int32), (65536 : Int32), (1114111 : Int32), (-2147483648 : Int32), (2147483647 : Int32)] : List Int32).getD v67.toNatClampNeg 0 := ⟨_, rfl⟩
   have n68 : -2147483648 ≤ v68.toInt ∧ v68.toInt < 2147483648 := by rw [e68]; exact rng32 _
   refine w_iaload X56 hx hZ e56 F57 ⟨by omega, by have hz : (16 : Int32).toInt = 16 := (by decide); omega⟩ (v := .int v68) (by rw [e68]; exact getD_int [(0 : Int32), (9 : Int32), (10 : Int32), (13 : Int32), (32 : Int32), (127 : Int32), (55295 : Int32), (55296 : Int32), (57343 : Int32), (57344 : Int32), (65533 : Int32), (65535 : Int32), (65536 : Int32), (1114111 : Int32), (-2147483648 : Int32), (2147483647 : Int32)] _) (dB at_113) 114 rfl ?_
   refine w_iloadN X56 hx off (dB at_114) 115 rfl rfl ?_
   refine w_bipush X56 hx (dB at_115) 117 rfl (7 : Int32) (by decide) ?_
   obtain ⟨v69, e69⟩ : ∃ z : Int32, z = off &&& (7 : Int32) := ⟨_, rfl⟩
   have n69 : v69.toInt = off.toInt % 8 := by rw [e69]; exact maskX 3 rfl (by decide) (by decide)
   refine w_iand X56 hx (dB at_117) 118 rfl e69 ?_
   refine w_iconst X56 hx (dB at_118) 119 rfl (4 : Int32) (by decide) ?_
   obtain ⟨v70, e70⟩ : ∃ z : Int32, z = v69 - (4 : Int32) := ⟨_, rfl⟩
   have n70 : v70.toInt = v69.toInt - 4 := by rw [e70]; exact subX rfl (by decide) (by omega) (by omega)
   refine w_isub X56 hx (dB at_119) 120 rfl e70 ?_
   obtain ⟨v71, e71⟩ : ∃ z : Int32, z = v68 + v70 := ⟨_, rfl⟩
   have n71 : (v71.toInt - (v68.toInt + v70.toInt)) % 4294967296 = 0 := by rw [e71]; exact addM rfl rfl
   have n71b : -2147483648 ≤ v71.toInt ∧ v71.toInt < 2147483648 := by rw [e71]; exact rng32 _
   refine w_iadd X56 hx (dB at_120) 121 rfl e71 ?_
   refine w_istore X56 hx (dB at_121) 123 rfl #[.val (.int xx), .val (.int sel), .val (.int off), .val (.ref a25), .val (.int v71)] rfl ?_
   exact J59 v71 (by trivial)
  ·refine w_iloadN X56 hx xx (dB at_100) 101 rfl rfl ?_
   refine w_istore X56 hx (dB at_101) 103 rfl #[.val (.int xx), .val (.int sel), .val (.int off), .val (.ref a25), .val (.int xx)] rfl ?_
   refine w_goto X56 hx (dB at_103) 123 ?_
   exact J59 xx (by trivial)
set_option maxRecDepth 65536 in
set_option maxHeartbeats 40000000 in
theorem comes_1 {Post : Tables → Env → Array Value → State → Outcome → State → Prop} (hpost : ∀ tb e args s v u, (limb_1_1.after args s (.returned v) u = true ∧ limb_1_2.after args s (.returned v) u = true ∧ True) → FrameEnd s (.returned v) u (Jvm.fieldLocs frame_1_writes args s ++ Jvm.arrayLocs frame_1_arrays args s ++ Jvm.staticLocs frame_1_statics s) 16 128 → Post tb e args s (.returned v) u) :
    ArmFor flags0 classFile x code maxLocals ret World_1 tables_1 room_1 Calls_1 rest_1 Pre_1 Post := by
  intro l hfl _ _ p e ha hc hk s m args below hf hA hF happ hP
  obtain ⟨hcalls, hrest, hpre⟩ := hP
  obtain ⟨-, -, -, hnamed, -, -, -, hat⟩ := (Spec.applies_iff hf).mp happ
  obtain ⟨hg, hn⟩ := and_e (Cond.before_iff.mp (show (Jvm.Cond.and given_1 narrow_1).before args s = true from hpre))
  obtain ⟨gg1, gg2⟩ := and_e hg
  obtain ⟨gg3, gg4⟩ := and_e gg2
  obtain ⟨gg5, gg6⟩ := and_e gg4
  obtain ⟨w0, w1, w2, rfl⟩ : ∃ w0 w1 w2 : Value, args = #[w0, w1, w2] := by
    have hs : args.size = 3 := by simpa [Cond.value, given_1] using gg1
    obtain ⟨L⟩ := args
    match L, hs with
    | [w0, w1, w2], _ => exact ⟨w0, w1, w2, rfl⟩
  have hw := fun d (hd : d ∈ tables_1) => atoms_spec (ws := Jvm.Cond.code x code maxLocals ret :: tables_1) hat d (List.mem_cons_of_mem _ hd)
  have hfit : Fit s := fun {y c} hc i hi => by
    obtain ⟨ha, rfl⟩ := Array.getElem?_eq_some_iff.mp hc
    have q := List.all_eq_true.mp ((Array.all_eq_true_iff_forall_mem.mp hF) _ (Array.getElem_mem ha)) i (List.mem_range.mpr hi)
    simpa [Array.getElem?_eq_getElem hi] using q
  obtain ⟨i0, ei0⟩ := is_v gg3
  obtain rfl : w0 = (.int i0) := Option.some.inj ei0
  obtain ⟨i1, ei1⟩ := is_v gg5
  obtain rfl : w1 = (.int i1) := Option.some.inj ei1
  obtain ⟨i2, ei2⟩ := is_v gg6
  obtain rfl : w2 = (.int i2) := Option.some.inj ei2
  obtain ⟨n, o, h1, h2, h3, _, L, rfl, ⟨rfl, N⟩, hq⟩ := rm0 l s _ hw tables_1 i0 i1 i2 s.heap s.heap.size (Nat.le_refl _) p e ha hc hk s m _ below hf ((Spec.applies_iff_loose hf).mp happ).1 ⟨rfl, State.Warmed39.refl s, rfl⟩ trivial
  refine ⟨n, _, h1, h2, h3, hpost _ _ _ _ _ _ ⟨Cond.after_iff.mpr rfl, Cond.after_iff.mpr (eq_i res_at (Term.int_eval (1)) rfl), trivial⟩ ⟨hq.1, hq.2.1, (hq.2.2.sift fun y hy => Or.inr (N y hy)).mono (by decide) (by decide)⟩⟩
theorem main_1_1 : Claimed_1_1 := comes_1 fun _ _ _ _ _ _ h hF => ⟨h.1, hF⟩
theorem main_1_2 : Claimed_1_2 := comes_1 fun _ _ _ _ _ _ h hF => ⟨h.2.1, hF⟩
end Jvm.Pilot.@@N@@
namespace Jvm.Pilot.@@N@@
open Jvm Jvm.ClassFile Sem Op Lib Jvm.Free Jvm.Stand Jvm.Pilot.@@N@@.Jvm.D
/-! MADE BY PROGRAM (witnessworld.py) out of the Statement's table words and the real class files: 10 classes; the members and pool entries that the words name. The judged class is class 1, her method 2. -/
namespace start1
open Jvm.ClassFile
def u (s : String) : CpInfo := .utf8 (stringToUtf16 s)
/-- a pool by its gaps: so many unusable entries, then the entry; so many at the end -/
def gap : Nat → List CpInfo → List CpInfo
  | 0, r => r
  | n + 1, r => .unusable :: gap n r
def poolList (es : List (Nat × CpInfo)) (last : Nat) : List CpInfo := es.foldr (fun e r => gap e.1 (e.2 :: r)) (gap last [])
def pool (es : List (Nat × CpInfo)) (last : Nat) : Array CpInfo := ⟨poolList es last⟩
def fileOf (pool : Array CpInfo) (this : Nat) (attrs : Array Attribute := #[]) (ms : Array MethodInfo := #[]) (fl : Nat := 33) (sup : Nat := 0) (ifs : Array Nat := #[]) (fds : Array FieldInfo := #[]) : ClassFile where
  minorVersion := 0
  majorVersion := 65
  constantPool := pool
  accessFlags := fl
  thisClass := this
  superClass := sup
  interfaces := ifs
  fields := fds
  methods := ms
  attributes := attrs
def plain (name : String) (sup : Option ClassId) : Class where
  name := name
  kind := .ordinary
  loader := none
  accessFlags := 33
  super := sup
  interfaces := #[]
  cf := none
  fields := #[]
  methods := #[]
  instanceTypes := #[]
  staticTypes := #[]
  resolved := #[]
  callSites := []
  init := .initialized
  statics := none
  mirror := none

def pool0 : Array CpInfo := pool [(5, u "<init>"), (0, u "()V"), (1, .class_ 10), (1, u "java/lang/Object")] 113

def k0m0 : Method := { name := "<init>", desc := "()V", sig := { parameters := [], returnType := none }, accessFlags := 1, code := none }
/-- java/lang/Object -/
def k0 : Class := { plain "java/lang/Object" none with
  accessFlags := 33
  interfaces := #[]
  cf := some (fileOf pool0 8 #[] #[{ accessFlags := 1, nameIndex := 5, descriptorIndex := 6, attributes := #[] }] 33 0 #[] #[])
  fields := #[]
  methods := #[k0m0]
  instanceTypes := #[]
  staticTypes := #[]
  resolved := Array.replicate 124 none
  statics := none }

def pool1 : Array CpInfo := pool [(2, .class_ 4), (1, u "java/lang/Object"), (0, u "<init>"), (0, u "()V"), (0, .integer 1114111), (0, .integer 55296), (0, .integer 57343), (0, .integer 65534), (0, .integer 65535), (0, .integer 55295), (0, .integer 57344), (0, .integer 65533), (0, .integer 65536), (2, .integer 2147483648), (0, .integer 2147483647), (0, .methodref 21 22), (0, .class_ 23), (0, .nameAndType 24 25), (0, u "com/example/coralline/coralline/xer/TextEncoder"), (0, u "isXmlCharacter"), (0, u "(I)Z"), (0, .methodref 27 28), (0, .class_ 29), (0, .nameAndType 30 25), (0, u "com/example/coralline/coralline/xer/TextEncoderIsXmlCharacterPinLaw"), (0, u "forbidden"), (3, u "law"), (0, u "(III)Z")] 4

def k1m0 : Method := { name := "<init>", desc := "()V", sig := { parameters := [], returnType := none }, accessFlags := 2, code := none }
def k1c1 : Code := { maxStack := 2, maxLocals := 1, code := method_2_code, exceptionTable := #[], attributes := #[] }
def k1m1 : Method := { name := "forbidden", desc := "(I)Z", sig := { parameters := [.int], returnType := some .boolean }, accessFlags := 10, code := some k1c1 }
def k1c2 : Code := { maxStack := 4, maxLocals := 5, code := code, exceptionTable := #[], attributes := #[] }
def k1m2 : Method := { name := "law", desc := "(III)Z", sig := { parameters := [.int, .int, .int], returnType := some .boolean }, accessFlags := 9, code := some k1c2 }
/-- com/example/coralline/coralline/xer/TextEncoderIsXmlCharacterPinLaw -/
def k1 : Class := { plain "com/example/coralline/coralline/xer/TextEncoderIsXmlCharacterPinLaw" (some 0) with
  accessFlags := 49
  interfaces := #[]
  cf := some (fileOf pool1 27 #[] #[{ accessFlags := 2, nameIndex := 5, descriptorIndex := 6, attributes := #[] }, { accessFlags := 10, nameIndex := 30, descriptorIndex := 25, attributes := #[] }, { accessFlags := 9, nameIndex := 34, descriptorIndex := 35, attributes := #[] }] 49 2 #[] #[])
  fields := #[]
  methods := #[k1m0, k1m1, k1m2]
  instanceTypes := #[]
  staticTypes := #[]
  resolved := Array.replicate 40 none
  statics := none }

def pool2 : Array CpInfo := pool [(1, .class_ 2), (0, u "com/example/coralline/coralline/schema/TypeVisitor"), (0, .class_ 4), (0, u "java/lang/Object")] 67

/-- com/example/coralline/coralline/schema/TypeVisitor -/
def k2 : Class := { plain "com/example/coralline/coralline/schema/TypeVisitor" (some 0) with
  accessFlags := 1537
  interfaces := #[]
  cf := some (fileOf pool2 1 #[] #[] 1537 3 #[] #[])
  fields := #[]
  methods := #[]
  instanceTypes := #[]
  staticTypes := #[]
  resolved := Array.replicate 72 none
  statics := none }

def pool3 : Array CpInfo := pool [(2, .class_ 4), (1, u "java/lang/Object"), (3, .class_ 10), (1, u "com/example/coralline/coralline/xer/TextEncoder"), (0, u "rules"), (0, u "Lcom/example/coralline/coralline/xer/XerRules;"), (9, u "decoder"), (0, u "Lcom/example/coralline/coralline/xer/TextDecoder;"), (307, u "isXmlCharacter"), (0, u "(I)Z"), (84, .class_ 419), (1, u "com/example/coralline/coralline/xer/TextEncoder$1"), (86, u "HEX"), (0, u "Ljava/util/HexFormat;"), (166, .integer 55295), (0, .integer 57344), (0, .integer 65533), (0, .integer 65536), (0, .integer 1114111), (91, .class_ 771), (0, u "com/example/coralline/coralline/schema/TypeVisitor"), (0, u "LONGEST_DECIMAL"), (0, u "I")] 119

def k3c0 : Code := { maxStack := 2, maxLocals := 1, code := prog_106_method_46_code, exceptionTable := #[], attributes := #[] }
def k3m0 : Method := { name := "isXmlCharacter", desc := "(I)Z", sig := { parameters := [.int], returnType := some .boolean }, accessFlags := 8, code := some k3c0 }
/-- com/example/coralline/coralline/xer/TextEncoder -/
def k3 : Class := { plain "com/example/coralline/coralline/xer/TextEncoder" (some 0) with
  accessFlags := 48
  interfaces := #[2]
  cf := some (fileOf pool3 8 #[.nestMembers #[417]] #[{ accessFlags := 8, nameIndex := 331, descriptorIndex := 332, attributes := #[] }] 48 2 #[770] #[{ accessFlags := 26, nameIndex := 506, descriptorIndex := 507, attributes := #[] }, { accessFlags := 24, nameIndex := 772, descriptorIndex := 773, attributes := #[] }, { accessFlags := 18, nameIndex := 11, descriptorIndex := 12, attributes := #[] }, { accessFlags := 18, nameIndex := 22, descriptorIndex := 23, attributes := #[] }])
  fields := #[{ name := "HEX", type := (.object "java/util/HexFormat"), accessFlags := 26, slot := 0, constantValue := 0 }, { name := "LONGEST_DECIMAL", type := .int, accessFlags := 24, slot := 1, constantValue := 0 }, { name := "rules", type := (.object "com/example/coralline/coralline/xer/XerRules"), accessFlags := 18, slot := 0, constantValue := 0 }, { name := "decoder", type := (.object "com/example/coralline/coralline/xer/TextDecoder"), accessFlags := 18, slot := 1, constantValue := 0 }]
  methods := #[k3m0]
  instanceTypes := #[(.object "com/example/coralline/coralline/xer/XerRules"), (.object "com/example/coralline/coralline/xer/TextDecoder")]
  staticTypes := #[(.object "java/util/HexFormat"), .int]
  resolved := Array.replicate 893 none
  statics := none }

def pool4 : Array CpInfo := pool [(1, u "java/lang/Cloneable"), (0, .class_ 1), (0, u "java/lang/Object"), (0, .class_ 3)] 3

/-- java/lang/Cloneable -/
def k4 : Class := { plain "java/lang/Cloneable" (some 0) with
  accessFlags := 1537
  interfaces := #[]
  cf := some (fileOf pool4 2 #[] #[] 1537 4 #[] #[])
  fields := #[]
  methods := #[]
  instanceTypes := #[]
  staticTypes := #[]
  resolved := Array.replicate 8 none
  statics := none }

def pool5 : Array CpInfo := pool [(1, u "java/io/Serializable"), (0, .class_ 1), (0, u "java/lang/Object"), (0, .class_ 3)] 3

/-- java/io/Serializable -/
def k5 : Class := { plain "java/io/Serializable" (some 0) with
  accessFlags := 1537
  interfaces := #[]
  cf := some (fileOf pool5 2 #[] #[] 1537 4 #[] #[])
  fields := #[]
  methods := #[]
  instanceTypes := #[]
  staticTypes := #[]
  resolved := Array.replicate 8 none
  statics := none }

/-- the primitive byte -/
def k6 : Class := { plain "byte" none with kind := .primitive 'B', accessFlags := 0x411 }
/-- [B -/
def k7 : Class := { plain "[B" (some 0) with kind := .array 6 .byte, interfaces := #[4, 5], accessFlags := 1041 }

/-- the primitive int -/
def k8 : Class := { plain "int" none with kind := .primitive 'I', accessFlags := 0x411 }
/-- [I -/
def k9 : Class := { plain "[I" (some 0) with kind := .array 8 .int, interfaces := #[4, 5], accessFlags := 1041 }

def heap : Heap := #[]
def classes : Array Class := #[k0, k1, k2, k3, k4, k5, k6, k7, k8, k9]
def interned : List (Array UInt16 × Addr) := []
def slotsUsed : Nat := 0
def theMethod : MethodId := ⟨1, 2⟩
def args0 : Array Value := #[.int 5, .int 7, .int 9]
def aboutOver (below : List Frame) : State where
  vm := { classes := classes, interned := interned.toArray }
  heap := heap
  slotsUsed := slotsUsed
  threads := #[{ frames := .invoking theMethod args0 :: below }]
def below0 : List Frame := [.native { method := ⟨0, 0⟩, args := #[] }]
def about1 : State := aboutOver below0
def p0 : Program := .bare "" "" ""
def e0 : Env := launch0.env 0 0 0
theorem w_frames : about1.frames = Frame.invoking theMethod args0 :: below0 := rfl
set_option maxRecDepth 65536 in
theorem w_args : argsFit about1.vm theMethod args0 = true := by decide +kernel
set_option maxRecDepth 65536 in
theorem w_heap : heapFits about1 = true := by decide +kernel
set_option maxRecDepth 65536 in
theorem w_runnable : about1.curStatus? = some .runnable := by decide +kernel
set_option maxRecDepth 65536 in
theorem w_alone : about1.alone = true := by decide +kernel
set_option maxRecDepth 65536 in
theorem w_named : about1.methodNamed? x = some theMethod := by decide +kernel
set_option maxRecDepth 65536 in
theorem w_hears : about1.hears theMethod below0 = true := by decide +kernel
set_option maxRecDepth 65536 in
theorem w_ripe : about1.ripe theMethod args0 below0 = true := by decide +kernel
theorem w_running : about1.status = .running := rfl
set_option maxRecDepth 65536 in
theorem w_room : about1.hasRoom e0.platform room_1 = true :=
  launch0.hasRoom_least _ room_1 (by decide +kernel) (by decide +kernel) (by decide +kernel) (by decide +kernel) (by decide +kernel) (by decide +kernel)
theorem allAtoms_all (ts : List Jvm.Cond) (a : Array Jvm.Value) (st : Jvm.State) : (allAtoms ts).before a st = ts.all (fun c => c.before a st) := by
  induction ts with
  | nil => rfl
  | cons c t ih =>
    show (Jvm.Cond.and c (allAtoms t)).before a st = _
    rw [Jvm.Cond.before_and, ih, List.all_cons]
def words1 : List Jvm.Cond := Jvm.Cond.code x code maxLocals ret :: tables_1
/-- a 'code' word, met by the world's own term for the bytes: nothing is compared byte by byte -/
theorem code_word {y : MethodName} {bytes : ByteArray} {mx : Nat} {rt : Option FieldType} {a : Array Value} {s : State} {m : MethodId} {meth : Method} {c : Code} (h1 : s.methodNamed? y = some m) (h2 : s.vm.method? m = some meth) (h3 : meth.code = some c) (h4 : c.code = bytes)
    (h5 : (c.maxLocals == mx && c.exceptionTable.isEmpty && decide (c.maxStack ≤ mostOperands) && decide (meth.sig.returnType = rt) && !meth.locks && decide (parseMethodDescriptor y.desc = some meth.sig)) = true) : (Jvm.Cond.code y bytes mx rt).before a s = true := by
  simp only [Bool.and_eq_true, beq_iff_eq, Bool.not_eq_true', decide_eq_true_eq] at h5
  obtain ⟨⟨⟨⟨⟨g1, g2⟩, g3⟩, g4⟩, g5⟩, g6⟩ := h5
  simp [Cond.before, Cond.holds, Cond.value, h1, h2, h3, h4, g1, g2, g3, g4, g5, g6]
def isCode : Jvm.Cond → Bool
  | .code _ _ _ _ => true
  | _ => false
theorem all_split {L : List Jvm.Cond} {P : Jvm.Cond → Bool} (h1 : L.all (fun c => isCode c || P c) = true) (h2 : ∀ c ∈ L.filter isCode, P c = true) : L.all P = true := by
  refine List.all_eq_true.mpr fun c hc => ?_
  have h := List.all_eq_true.mp h1 c hc
  rcases Bool.eq_false_or_eq_true (isCode c) with hi | hi
  · exact h2 c (List.mem_filter.mpr ⟨hc, hi⟩)
  · simpa [hi] using h
set_option maxRecDepth 65536 in
theorem w_c0 : (Jvm.Cond.code x code maxLocals ret).before args0 about1 = true := code_word (m := ⟨1, 2⟩) (meth := k1m2) (c := k1c2) (by decide +kernel) rfl rfl rfl (by decide +kernel)
set_option maxRecDepth 65536 in
theorem w_c1 : (Jvm.Cond.code ({ cls := "com/example/coralline/coralline/xer/TextEncoder", name := "isXmlCharacter", desc := "(I)Z" } : Jvm.MethodName) prog_106_method_46_code (1 : Nat) (Option.some Jvm.ClassFile.FieldType.boolean)).before args0 about1 = true := code_word (m := ⟨3, 0⟩) (meth := k3m0) (c := k3c0) (by decide +kernel) rfl rfl rfl (by decide +kernel)
set_option maxRecDepth 65536 in
theorem w_c2 : (Jvm.Cond.code ({ cls := "com/example/coralline/coralline/xer/TextEncoderIsXmlCharacterPinLaw", name := "forbidden", desc := "(I)Z" } : Jvm.MethodName) method_2_code (1 : Nat) (Option.some Jvm.ClassFile.FieldType.boolean)).before args0 about1 = true := code_word (m := ⟨1, 1⟩) (meth := k1m1) (c := k1c1) (by decide +kernel) rfl rfl rfl (by decide +kernel)
def codes1 : List Jvm.Cond := [Jvm.Cond.code x code maxLocals ret, Jvm.Cond.code ({ cls := "com/example/coralline/coralline/xer/TextEncoder", name := "isXmlCharacter", desc := "(I)Z" } : Jvm.MethodName) prog_106_method_46_code (1 : Nat) (Option.some Jvm.ClassFile.FieldType.boolean), Jvm.Cond.code ({ cls := "com/example/coralline/coralline/xer/TextEncoderIsXmlCharacterPinLaw", name := "forbidden", desc := "(I)Z" } : Jvm.MethodName) method_2_code (1 : Nat) (Option.some Jvm.ClassFile.FieldType.boolean)]
set_option maxRecDepth 65536 in
theorem codes_eq : words1.filter isCode = codes1 := rfl
theorem w_codes : ∀ c ∈ words1.filter isCode, c.before args0 about1 = true := by
  rw [codes_eq]
  intro c hc
  simp only [codes1, List.mem_cons, List.not_mem_nil, or_false] at hc
  rcases hc with rfl | rfl | rfl
  · exact w_c0
  · exact w_c1
  · exact w_c2
set_option maxRecDepth 65536 in
theorem w_t1 : (words1.take 24).all (fun c => isCode c || c.before args0 about1) = true := by decide +kernel
set_option maxRecDepth 65536 in
theorem w_t2 : (words1.drop 24).all (fun c => isCode c || c.before args0 about1) = true := by decide +kernel
theorem w_tables : (allAtoms (Jvm.Cond.code x code maxLocals ret :: tables_1)).before args0 about1 = true := by
  rw [allAtoms_all]
  show words1.all (fun c => c.before args0 about1) = true
  refine all_split ?_ w_codes
  rw [← List.take_append_drop 24 words1, List.all_append, w_t1, w_t2]
  rfl
set_option maxRecDepth 65536 in
theorem w_case : (Jvm.Cond.and given_1 narrow_1).before args0 about1 = true := by decide +kernel
theorem w_applies : (headSpec (Jvm.Cond.code x code maxLocals ret :: tables_1) room_1).applies x e0.platform about1 = true :=
  (Spec.applies_iff w_frames).mpr ⟨w_running, w_runnable, w_alone, w_named, w_hears, w_ripe, w_room, w_tables⟩
theorem atStart : AtStart classFile x code maxLocals ret World_1 tables_1 room_1 Calls_1 rest_1 Pre_1 launch0 p0 e0 about1 theMethod args0 below0 :=
  ⟨lists_1, trivial, launch0.admits_env _ _ _, launch0.least_env, fairChoices_fair.cas, fairChoices_fair.clock, w_frames, w_args, w_heap, w_applies, trivial, trivial, w_case⟩
end start1
theorem witness_1 : WitnessClaimed_1 := ⟨start1.p0, start1.e0, start1.about1, start1.theMethod, start1.args0, start1.below0, start1.atStart⟩
end Jvm.Pilot.@@N@@
