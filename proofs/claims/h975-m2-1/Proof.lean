import JvmDerived
import JvmDerived.Pilot.@@N@@Statement
import JvmDerived.Pilot.@@N@@Code
set_option linter.unusedVariables false
set_option linter.unusedSimpArgs false
namespace Jvm.Own
open Sem ClassFile Op Lib Jvm.Stand Jvm.Free Jvm.LawKit Jvm.RoadKit
/-- from here the run goes on to a return that the contract allows -/
def Wk (p : Program) (e : Env) (below : List Frame) (F : Outcome → State → Prop) (T : State) (g : JFrame) : Prop :=
  ∃ s₂ o, Steps p.tables e below (T.setTop g) s₂ ∧ s₂.status = .running ∧ Ended s₂ below o ∧ F o s₂
abbrev FN (s : State) (Q : Option Value → Heap → List Loc → Prop) (kc ks : Nat) : Outcome → State → Prop := fun o s₂ => ∃ v L, o = .returned v ∧ Q v s₂.heap L ∧ FrameEnd s o s₂ L kc ks
section Walk
variable {p : Program} {l : Launch} {e : Env} {R : Room} {s : State} {m : MethodId} {args : Array Value} {below : List Frame} {meth : Method} {c : Code} {T : State} {locs : List Loc} {cells slots : Nat} {Q : Option Value → Heap → List Loc → Prop} {Fe : Outcome → State → Prop} {kc ks pc : Nat} {Ls : Array Slot} {S : List Value} {Z : State} {a0 : Array Value} {h : Heap}
theorem Wk.step {T' : State} {g g' : JFrame} (h : Wk p e below Fe T' g') (st : ∀ t, Steps p.tables e below (T'.setTop g') t → Steps p.tables e below (T.setTop g) t) : Wk p e below Fe T g := by
  obtain ⟨s₂, o, h1, h2⟩ := h
  exact ⟨s₂, o, st _ h1, h2⟩
theorem Wk.come {T' : State} {g g' : JFrame} (h : Wk p e below Fe T' g') (st : Steps p.tables e below (T.setTop g) (T'.setTop g')) : Wk p e below Fe T g := h.step fun _ k => st.trans k
theorem w_iload (X : Stand p l e R s m args below meth c T locs cells slots) (hx : p.tables.exec = Jvm.exec) {k : Nat} (v : Int32) (hd : decode c.code pc = .ok (.iload k, 2)) (pc' : Nat) (hp : pc + 2 = pc') (hl : Ls[k]? = some (.val (.int v))) (h : Wk p e below Fe T (mkF m pc' Ls (.int v :: S))) : Wk p e below Fe T (mkF m pc Ls S) := by
  subst hp; exact h.step fun _ k => XS.iload X.here hx rfl hd hl k
theorem w_lloadN (X : Stand p l e R s m args below meth c T locs cells slots) (hx : p.tables.exec = Jvm.exec) {k : Fin 4} (v : Int64) (hd : decode c.code pc = .ok (.lload_n k, 1)) (pc' : Nat) (hp : pc + 1 = pc') (hl : Ls[k.val]? = some (.val (.long v))) (h : Wk p e below Fe T (mkF m pc' Ls (.long v :: S))) : Wk p e below Fe T (mkF m pc Ls S) := by
  subst hp; exact h.step fun _ k => XS.lloadN X.here hx rfl hd hl k
theorem w_aload (X : Stand p l e R s m args below meth c T locs cells slots) (hx : p.tables.exec = Jvm.exec) {k : Nat} (v : Value) (hd : decode c.code pc = .ok (.aload k, 2)) (pc' : Nat) (hp : pc + 2 = pc') (hl : Ls[k]? = some (.val v)) (hv : v.isRef = true) (h : Wk p e below Fe T (mkF m pc' Ls (v :: S))) : Wk p e below Fe T (mkF m pc Ls S) := by
  subst hp; exact h.step fun _ k => XS.aload X.here hx rfl hd hl hv k
theorem w_aloadN (X : Stand p l e R s m args below meth c T locs cells slots) (hx : p.tables.exec = Jvm.exec) {k : Fin 4} (v : Value) (hd : decode c.code pc = .ok (.aload_n k, 1)) (pc' : Nat) (hp : pc + 1 = pc') (hl : Ls[k.val]? = some (.val v)) (hv : v.isRef = true) (h : Wk p e below Fe T (mkF m pc' Ls (v :: S))) : Wk p e below Fe T (mkF m pc Ls S) := by
  subst hp; exact h.step fun _ k => XS.aloadN X.here hx rfl hd hl hv k
theorem w_istore (X : Stand p l e R s m args below meth c T locs cells slots) (hx : p.tables.exec = Jvm.exec) {k : Nat} {x : Int32} (hd : decode c.code pc = .ok (.istore k, 2)) (pc' : Nat) (hp : pc + 2 = pc') (l' : Array Slot) (hl : storeLocals Ls k (.int x) = some l') (h : Wk p e below Fe T (mkF m pc' l' S)) : Wk p e below Fe T (mkF m pc Ls (.int x :: S)) := by
  subst hp; exact h.step fun _ k => XS.istore X.here hx rfl hd rfl hl k
theorem w_astore (X : Stand p l e R s m args below meth c T locs cells slots) (hx : p.tables.exec = Jvm.exec) {k : Nat} {x : Value} (hd : decode c.code pc = .ok (.astore k, 2)) (pc' : Nat) (hp : pc + 2 = pc') (hv : x.isRef = true) (l' : Array Slot) (hl : storeLocals Ls k x = some l') (h : Wk p e below Fe T (mkF m pc' l' S)) : Wk p e below Fe T (mkF m pc Ls (x :: S)) := by
  subst hp; exact h.step fun _ k => XS.astore X.here hx rfl hd rfl hv hl k
theorem w_iconst (X : Stand p l e R s m args below meth c T locs cells slots) (hx : p.tables.exec = Jvm.exec) {i : Int} (hd : decode c.code pc = .ok (.iconst i, 1)) (pc' : Nat) (hp : pc + 1 = pc') (z : Int32) (hz : Int32.ofInt i = z) (h : Wk p e below Fe T (mkF m pc' Ls (.int z :: S))) : Wk p e below Fe T (mkF m pc Ls S) := by
  subst hp hz; exact h.step fun _ k => XS.iconst X.here hx rfl hd k
theorem w_iand (X : Stand p l e R s m args below meth c T locs cells slots) (hx : p.tables.exec = Jvm.exec) {x y : Int32} (hd : decode c.code pc = .ok (.iand, 1)) (pc' : Nat) (hp : pc + 1 = pc') {z : Int32} (hz : z = x &&& y) (h : Wk p e below Fe T (mkF m pc' Ls (.int z :: S))) : Wk p e below Fe T (mkF m pc Ls (.int y :: .int x :: S)) := by
  subst hp hz; exact h.step fun _ k => XS.iand X.here hx rfl hd rfl k
theorem w_lcmp (X : Stand p l e R s m args below meth c T locs cells slots) (hx : p.tables.exec = Jvm.exec) {x y : Int64} (hd : decode c.code pc = .ok (.lcmp, 1)) (pc' : Nat) (hp : pc + 1 = pc') {z : Int32} (hz : z = lcmpW x y) (h : Wk p e below Fe T (mkF m pc' Ls (.int z :: S))) : Wk p e below Fe T (mkF m pc Ls (.long y :: .long x :: S)) := by
  subst hp hz; exact h.step fun _ k => XS.lcmp X.here hx rfl hd rfl k
theorem w_goto (X : Stand p l e R s m args below meth c T locs cells slots) (hx : p.tables.exec = Jvm.exec) {o : Int} (hd : decode c.code pc = .ok (.goto o, 3)) (pc' : Nat) (h : Wk p e below Fe T (mkF m pc' Ls S)) (ho : 0 ≤ (pc : Int) + o := by decide) (hp : ((pc : Int) + o).toNat = pc' := by decide) : Wk p e below Fe T (mkF m pc Ls S) := by
  exact h.step fun _ k => XS.goto X.here hx rfl rfl hd ho hp k
theorem holds_eq {x y : Int32} {A B : Int} (ha : x.toInt = A) (hb : y.toInt = B) : ((A = B) → if_icmp.holds .eq x y = true) ∧ ((¬ A = B) → if_icmp.holds .eq x y = false) := by
  subst ha hb
  constructor
  · intro q
    first
    | exact (tlt (x := x) (y := y) (Int32.lt_iff_toInt_lt.mpr (by omega))).1
    | exact (flt (x := x) (y := y) (fun r => by have := Int32.lt_iff_toInt_lt.mp r; omega)).2.1
    | exact (tlt (x := y) (y := x) (Int32.lt_iff_toInt_lt.mpr (by omega))).2.2.1
    | exact (flt (x := y) (y := x) (fun r => by have := Int32.lt_iff_toInt_lt.mp r; omega)).2.2.2
    | exact (teq (x := x) (y := y) (Int32.toInt_inj.mp (by omega))).1
    | exact (feq (x := x) (y := y) (fun r => q (by rw [r]))).2
  · intro q
    first
    | exact (flt (x := x) (y := y) (fun r => by have := Int32.lt_iff_toInt_lt.mp r; omega)).1
    | exact (tlt (x := x) (y := y) (Int32.lt_iff_toInt_lt.mpr (by omega))).2.1
    | exact (flt (x := y) (y := x) (fun r => by have := Int32.lt_iff_toInt_lt.mp r; omega)).2.2.1
    | exact (tlt (x := y) (y := x) (Int32.lt_iff_toInt_lt.mpr (by omega))).2.2.2
    | exact (feq (x := x) (y := y) (fun r => q (by rw [r]))).1
    | exact (teq (x := x) (y := y) (Int32.toInt_inj.mp (by omega))).2
theorem w_if_eq (X : Stand p l e R s m args below meth c T locs cells slots) (hx : p.tables.exec = Jvm.exec) {x : Int32} {o : Int} (A : Int) (ha : x.toInt = A) (hd : decode c.code pc = .ok (.ifCond .eq o, 3)) (pt pn : Nat) (h1 : A = 0 → Wk p e below Fe T (mkF m pt Ls S)) (h2 : ¬ A = 0 → Wk p e below Fe T (mkF m pn Ls S)) (ho : 0 ≤ (pc : Int) + o := by decide) (hp : ((pc : Int) + o).toNat = pt := by decide) (hn : pc + 3 = pn := by rfl) : Wk p e below Fe T (mkF m pc Ls (.int x :: S)) := by
  subst hn
  have hb : (0 : Int32).toInt = 0 := rfl
  by_cases q : A = 0
  · exact (h1 q).step fun _ k => XS.ifYes X.here hx rfl rfl hd rfl ((if0 _ _).trans ((holds_eq ha hb).1 q)) ho hp k
  · have q' : ¬ A = 0 := by omega
    exact (h2 q').step fun _ k => XS.ifNo X.here hx rfl hd rfl ((if0 _ _).trans ((holds_eq ha hb).2 q')) k
theorem holds_ne {x y : Int32} {A B : Int} (ha : x.toInt = A) (hb : y.toInt = B) : ((¬ A = B) → if_icmp.holds .ne x y = true) ∧ ((A = B) → if_icmp.holds .ne x y = false) := by
  subst ha hb
  constructor
  · intro q
    first
    | exact (tlt (x := x) (y := y) (Int32.lt_iff_toInt_lt.mpr (by omega))).1
    | exact (flt (x := x) (y := y) (fun r => by have := Int32.lt_iff_toInt_lt.mp r; omega)).2.1
    | exact (tlt (x := y) (y := x) (Int32.lt_iff_toInt_lt.mpr (by omega))).2.2.1
    | exact (flt (x := y) (y := x) (fun r => by have := Int32.lt_iff_toInt_lt.mp r; omega)).2.2.2
    | exact (teq (x := x) (y := y) (Int32.toInt_inj.mp (by omega))).1
    | exact (feq (x := x) (y := y) (fun r => q (by rw [r]))).2
  · intro q
    first
    | exact (flt (x := x) (y := y) (fun r => by have := Int32.lt_iff_toInt_lt.mp r; omega)).1
    | exact (tlt (x := x) (y := y) (Int32.lt_iff_toInt_lt.mpr (by omega))).2.1
    | exact (flt (x := y) (y := x) (fun r => by have := Int32.lt_iff_toInt_lt.mp r; omega)).2.2.1
    | exact (tlt (x := y) (y := x) (Int32.lt_iff_toInt_lt.mpr (by omega))).2.2.2
    | exact (feq (x := x) (y := y) (fun r => q (by rw [r]))).1
    | exact (teq (x := x) (y := y) (Int32.toInt_inj.mp (by omega))).2
theorem w_icmp_ne (X : Stand p l e R s m args below meth c T locs cells slots) (hx : p.tables.exec = Jvm.exec) {x y : Int32} {o : Int} (A B : Int) (ha : x.toInt = A) (hb : y.toInt = B) (hd : decode c.code pc = .ok (.if_icmp .ne o, 3)) (pt pn : Nat) (h1 : ¬ A = B → Wk p e below Fe T (mkF m pt Ls S)) (h2 : A = B → Wk p e below Fe T (mkF m pn Ls S)) (ho : 0 ≤ (pc : Int) + o := by decide) (hp : ((pc : Int) + o).toNat = pt := by decide) (hn : pc + 3 = pn := by rfl) : Wk p e below Fe T (mkF m pc Ls (.int y :: .int x :: S)) := by
  subst hn
  by_cases q : ¬ A = B
  · exact (h1 q).step fun _ k => XS.icmpYes X.here hx rfl rfl hd rfl ((holds_ne ha hb).1 q) ho hp k
  · have q' : A = B := by omega
    exact (h2 q').step fun _ k => XS.icmpNo X.here hx rfl hd rfl ((holds_ne ha hb).2 q') k
theorem w_if_ne (X : Stand p l e R s m args below meth c T locs cells slots) (hx : p.tables.exec = Jvm.exec) {x : Int32} {o : Int} (A : Int) (ha : x.toInt = A) (hd : decode c.code pc = .ok (.ifCond .ne o, 3)) (pt pn : Nat) (h1 : ¬ A = 0 → Wk p e below Fe T (mkF m pt Ls S)) (h2 : A = 0 → Wk p e below Fe T (mkF m pn Ls S)) (ho : 0 ≤ (pc : Int) + o := by decide) (hp : ((pc : Int) + o).toNat = pt := by decide) (hn : pc + 3 = pn := by rfl) : Wk p e below Fe T (mkF m pc Ls (.int x :: S)) := by
  subst hn
  have hb : (0 : Int32).toInt = 0 := rfl
  by_cases q : ¬ A = 0
  · exact (h1 q).step fun _ k => XS.ifYes X.here hx rfl rfl hd rfl ((if0 _ _).trans ((holds_ne ha hb).1 q)) ho hp k
  · have q' : A = 0 := by omega
    exact (h2 q').step fun _ k => XS.ifNo X.here hx rfl hd rfl ((if0 _ _).trans ((holds_ne ha hb).2 q')) k
theorem holds_lt {x y : Int32} {A B : Int} (ha : x.toInt = A) (hb : y.toInt = B) : ((A < B) → if_icmp.holds .lt x y = true) ∧ ((B ≤ A) → if_icmp.holds .lt x y = false) := by
  subst ha hb
  constructor
  · intro q
    first
    | exact (tlt (x := x) (y := y) (Int32.lt_iff_toInt_lt.mpr (by omega))).1
    | exact (flt (x := x) (y := y) (fun r => by have := Int32.lt_iff_toInt_lt.mp r; omega)).2.1
    | exact (tlt (x := y) (y := x) (Int32.lt_iff_toInt_lt.mpr (by omega))).2.2.1
    | exact (flt (x := y) (y := x) (fun r => by have := Int32.lt_iff_toInt_lt.mp r; omega)).2.2.2
    | exact (teq (x := x) (y := y) (Int32.toInt_inj.mp (by omega))).1
    | exact (feq (x := x) (y := y) (fun r => q (by rw [r]))).2
  · intro q
    first
    | exact (flt (x := x) (y := y) (fun r => by have := Int32.lt_iff_toInt_lt.mp r; omega)).1
    | exact (tlt (x := x) (y := y) (Int32.lt_iff_toInt_lt.mpr (by omega))).2.1
    | exact (flt (x := y) (y := x) (fun r => by have := Int32.lt_iff_toInt_lt.mp r; omega)).2.2.1
    | exact (tlt (x := y) (y := x) (Int32.lt_iff_toInt_lt.mpr (by omega))).2.2.2
    | exact (feq (x := x) (y := y) (fun r => q (by rw [r]))).1
    | exact (teq (x := x) (y := y) (Int32.toInt_inj.mp (by omega))).2
theorem w_if_lt (X : Stand p l e R s m args below meth c T locs cells slots) (hx : p.tables.exec = Jvm.exec) {x : Int32} {o : Int} (A : Int) (ha : x.toInt = A) (hd : decode c.code pc = .ok (.ifCond .lt o, 3)) (pt pn : Nat) (h1 : A < 0 → Wk p e below Fe T (mkF m pt Ls S)) (h2 : 0 ≤ A → Wk p e below Fe T (mkF m pn Ls S)) (ho : 0 ≤ (pc : Int) + o := by decide) (hp : ((pc : Int) + o).toNat = pt := by decide) (hn : pc + 3 = pn := by rfl) : Wk p e below Fe T (mkF m pc Ls (.int x :: S)) := by
  subst hn
  have hb : (0 : Int32).toInt = 0 := rfl
  by_cases q : A < 0
  · exact (h1 q).step fun _ k => XS.ifYes X.here hx rfl rfl hd rfl ((if0 _ _).trans ((holds_lt ha hb).1 q)) ho hp k
  · have q' : 0 ≤ A := by omega
    exact (h2 q').step fun _ k => XS.ifNo X.here hx rfl hd rfl ((if0 _ _).trans ((holds_lt ha hb).2 q')) k
theorem holds_ge {x y : Int32} {A B : Int} (ha : x.toInt = A) (hb : y.toInt = B) : ((B ≤ A) → if_icmp.holds .ge x y = true) ∧ ((A < B) → if_icmp.holds .ge x y = false) := by
  subst ha hb
  constructor
  · intro q
    first
    | exact (tlt (x := x) (y := y) (Int32.lt_iff_toInt_lt.mpr (by omega))).1
    | exact (flt (x := x) (y := y) (fun r => by have := Int32.lt_iff_toInt_lt.mp r; omega)).2.1
    | exact (tlt (x := y) (y := x) (Int32.lt_iff_toInt_lt.mpr (by omega))).2.2.1
    | exact (flt (x := y) (y := x) (fun r => by have := Int32.lt_iff_toInt_lt.mp r; omega)).2.2.2
    | exact (teq (x := x) (y := y) (Int32.toInt_inj.mp (by omega))).1
    | exact (feq (x := x) (y := y) (fun r => q (by rw [r]))).2
  · intro q
    first
    | exact (flt (x := x) (y := y) (fun r => by have := Int32.lt_iff_toInt_lt.mp r; omega)).1
    | exact (tlt (x := x) (y := y) (Int32.lt_iff_toInt_lt.mpr (by omega))).2.1
    | exact (flt (x := y) (y := x) (fun r => by have := Int32.lt_iff_toInt_lt.mp r; omega)).2.2.1
    | exact (tlt (x := y) (y := x) (Int32.lt_iff_toInt_lt.mpr (by omega))).2.2.2
    | exact (feq (x := x) (y := y) (fun r => q (by rw [r]))).1
    | exact (teq (x := x) (y := y) (Int32.toInt_inj.mp (by omega))).2
theorem w_if_ge (X : Stand p l e R s m args below meth c T locs cells slots) (hx : p.tables.exec = Jvm.exec) {x : Int32} {o : Int} (A : Int) (ha : x.toInt = A) (hd : decode c.code pc = .ok (.ifCond .ge o, 3)) (pt pn : Nat) (h1 : 0 ≤ A → Wk p e below Fe T (mkF m pt Ls S)) (h2 : A < 0 → Wk p e below Fe T (mkF m pn Ls S)) (ho : 0 ≤ (pc : Int) + o := by decide) (hp : ((pc : Int) + o).toNat = pt := by decide) (hn : pc + 3 = pn := by rfl) : Wk p e below Fe T (mkF m pc Ls (.int x :: S)) := by
  subst hn
  have hb : (0 : Int32).toInt = 0 := rfl
  by_cases q : 0 ≤ A
  · exact (h1 q).step fun _ k => XS.ifYes X.here hx rfl rfl hd rfl ((if0 _ _).trans ((holds_ge ha hb).1 q)) ho hp k
  · have q' : A < 0 := by omega
    exact (h2 q').step fun _ k => XS.ifNo X.here hx rfl hd rfl ((if0 _ _).trans ((holds_ge ha hb).2 q')) k
theorem holds_gt {x y : Int32} {A B : Int} (ha : x.toInt = A) (hb : y.toInt = B) : ((B < A) → if_icmp.holds .gt x y = true) ∧ ((A ≤ B) → if_icmp.holds .gt x y = false) := by
  subst ha hb
  constructor
  · intro q
    first
    | exact (tlt (x := x) (y := y) (Int32.lt_iff_toInt_lt.mpr (by omega))).1
    | exact (flt (x := x) (y := y) (fun r => by have := Int32.lt_iff_toInt_lt.mp r; omega)).2.1
    | exact (tlt (x := y) (y := x) (Int32.lt_iff_toInt_lt.mpr (by omega))).2.2.1
    | exact (flt (x := y) (y := x) (fun r => by have := Int32.lt_iff_toInt_lt.mp r; omega)).2.2.2
    | exact (teq (x := x) (y := y) (Int32.toInt_inj.mp (by omega))).1
    | exact (feq (x := x) (y := y) (fun r => q (by rw [r]))).2
  · intro q
    first
    | exact (flt (x := x) (y := y) (fun r => by have := Int32.lt_iff_toInt_lt.mp r; omega)).1
    | exact (tlt (x := x) (y := y) (Int32.lt_iff_toInt_lt.mpr (by omega))).2.1
    | exact (flt (x := y) (y := x) (fun r => by have := Int32.lt_iff_toInt_lt.mp r; omega)).2.2.1
    | exact (tlt (x := y) (y := x) (Int32.lt_iff_toInt_lt.mpr (by omega))).2.2.2
    | exact (feq (x := x) (y := y) (fun r => q (by rw [r]))).1
    | exact (teq (x := x) (y := y) (Int32.toInt_inj.mp (by omega))).2
theorem w_if_gt (X : Stand p l e R s m args below meth c T locs cells slots) (hx : p.tables.exec = Jvm.exec) {x : Int32} {o : Int} (A : Int) (ha : x.toInt = A) (hd : decode c.code pc = .ok (.ifCond .gt o, 3)) (pt pn : Nat) (h1 : 0 < A → Wk p e below Fe T (mkF m pt Ls S)) (h2 : A ≤ 0 → Wk p e below Fe T (mkF m pn Ls S)) (ho : 0 ≤ (pc : Int) + o := by decide) (hp : ((pc : Int) + o).toNat = pt := by decide) (hn : pc + 3 = pn := by rfl) : Wk p e below Fe T (mkF m pc Ls (.int x :: S)) := by
  subst hn
  have hb : (0 : Int32).toInt = 0 := rfl
  by_cases q : 0 < A
  · exact (h1 q).step fun _ k => XS.ifYes X.here hx rfl rfl hd rfl ((if0 _ _).trans ((holds_gt ha hb).1 q)) ho hp k
  · have q' : A ≤ 0 := by omega
    exact (h2 q').step fun _ k => XS.ifNo X.here hx rfl hd rfl ((if0 _ _).trans ((holds_gt ha hb).2 q')) k
theorem holds_le {x y : Int32} {A B : Int} (ha : x.toInt = A) (hb : y.toInt = B) : ((A ≤ B) → if_icmp.holds .le x y = true) ∧ ((B < A) → if_icmp.holds .le x y = false) := by
  subst ha hb
  constructor
  · intro q
    first
    | exact (tlt (x := x) (y := y) (Int32.lt_iff_toInt_lt.mpr (by omega))).1
    | exact (flt (x := x) (y := y) (fun r => by have := Int32.lt_iff_toInt_lt.mp r; omega)).2.1
    | exact (tlt (x := y) (y := x) (Int32.lt_iff_toInt_lt.mpr (by omega))).2.2.1
    | exact (flt (x := y) (y := x) (fun r => by have := Int32.lt_iff_toInt_lt.mp r; omega)).2.2.2
    | exact (teq (x := x) (y := y) (Int32.toInt_inj.mp (by omega))).1
    | exact (feq (x := x) (y := y) (fun r => q (by rw [r]))).2
  · intro q
    first
    | exact (flt (x := x) (y := y) (fun r => by have := Int32.lt_iff_toInt_lt.mp r; omega)).1
    | exact (tlt (x := x) (y := y) (Int32.lt_iff_toInt_lt.mpr (by omega))).2.1
    | exact (flt (x := y) (y := x) (fun r => by have := Int32.lt_iff_toInt_lt.mp r; omega)).2.2.1
    | exact (tlt (x := y) (y := x) (Int32.lt_iff_toInt_lt.mpr (by omega))).2.2.2
    | exact (feq (x := x) (y := y) (fun r => q (by rw [r]))).1
    | exact (teq (x := x) (y := y) (Int32.toInt_inj.mp (by omega))).2
theorem w_if_le (X : Stand p l e R s m args below meth c T locs cells slots) (hx : p.tables.exec = Jvm.exec) {x : Int32} {o : Int} (A : Int) (ha : x.toInt = A) (hd : decode c.code pc = .ok (.ifCond .le o, 3)) (pt pn : Nat) (h1 : A ≤ 0 → Wk p e below Fe T (mkF m pt Ls S)) (h2 : 0 < A → Wk p e below Fe T (mkF m pn Ls S)) (ho : 0 ≤ (pc : Int) + o := by decide) (hp : ((pc : Int) + o).toNat = pt := by decide) (hn : pc + 3 = pn := by rfl) : Wk p e below Fe T (mkF m pc Ls (.int x :: S)) := by
  subst hn
  have hb : (0 : Int32).toInt = 0 := rfl
  by_cases q : A ≤ 0
  · exact (h1 q).step fun _ k => XS.ifYes X.here hx rfl rfl hd rfl ((if0 _ _).trans ((holds_le ha hb).1 q)) ho hp k
  · have q' : 0 < A := by omega
    exact (h2 q').step fun _ k => XS.ifNo X.here hx rfl hd rfl ((if0 _ _).trans ((holds_le ha hb).2 q')) k
theorem w_acmp (X : Stand p l e R s m args below meth c T locs cells slots) (hx : p.tables.exec = Jvm.exec) {cd : ACond} {x y : Value} {o : Int} (h1 : x.isRef = true) (h2 : y.isRef = true) (hd : decode c.code pc = .ok (.if_acmp cd o, 3)) (same : Bool) (hq : decide (x = y) = same) (pc' : Nat) (ho : 0 ≤ (pc : Int) + o) (hp : pc' = if acV cd same = true then ((pc : Int) + o).toNat else pc + 3) (h : Wk p e below Fe T (mkF m pc' Ls S)) : Wk p e below Fe T (mkF m pc Ls (y :: x :: S)) :=
  h.step fun _ k => Jvm.RoadKit.acmp (g := mkF m pc Ls (y :: x :: S)) X hx rfl h1 h2 rfl hd rfl hq ho hp k
theorem w_retN (X : Stand p l e R s m args below meth c T locs cells slots) (hx : p.tables.exec = Jvm.exec) (hlocks : meth.locks = false) {t : FieldType} {z : Int32} (hret : meth.sig.returnType = some t) (ht : t = .boolean ∨ t = .byte ∨ t = .char ∨ t = .short) (hd : decode c.code pc = .ok (.ireturn, 1)) (hc : cells ≤ kc) (hs : slots ≤ ks) (hQ : Q (some (.int (nar t z))) T.heap locs) : Wk p e below (FN s Q kc ks) T (mkF m pc Ls (.int z :: S)) := by
  obtain ⟨fs, hr, hrun, hended, hW, hsame⟩ := X.leave (v := some (.int (nar t z))) (fun h => by rw [hret] at h; cases h) hlocks
  exact ⟨_, _, retN X hx hret ht hd hr, hrun, hended, _, _, rfl, hQ, ⟨_, rfl⟩, hW, hsame.mono hc hs⟩
theorem w_retO (X : Stand p l e R s m args below meth c T locs cells slots) (hx : p.tables.exec = Jvm.exec) (hlocks : meth.locks = false) {t : FieldType} {w : Value} {i : Instr} (hret : meth.sig.returnType = some t) (hn : narrow t w = w)
    (hi : (i = .ireturn ∧ (t = .int ∨ t = .boolean ∨ t = .byte ∨ t = .char ∨ t = .short) ∧ ∃ z, w = .int z) ∨ (i = .lreturn ∧ t = .long ∧ ∃ z, w = .long z) ∨ (i = .dreturn ∧ t = .double ∧ ∃ z, w = .double z) ∨ (i = .freturn ∧ t = .float ∧ ∃ z, w = .float z) ∨ (i = .areturn ∧ t.isReference = true ∧ w.isRef = true))
    (hd : decode c.code pc = .ok (i, 1)) (hc : cells ≤ kc) (hs : slots ≤ ks) (hQ : Q (some w) T.heap locs) : Wk p e below (FN s Q kc ks) T (mkF m pc Ls (w :: S)) := by
  obtain ⟨fs, hr, hrun, hended, hW, hsame⟩ := X.leave (v := some w) (fun h => by rw [hret] at h; cases h) hlocks
  exact ⟨_, _, retOut X hx hret hn hi hd hr, hrun, hended, _, _, rfl, hQ, ⟨_, rfl⟩, hW, hsame.mono hc hs⟩
theorem w_retL (X : Stand p l e R s m args below meth c T locs cells slots) (hx : p.tables.exec = Jvm.exec) (hlocks : meth.locks = false) {z : Int64} (hret : meth.sig.returnType = some .long) (hd : decode c.code pc = .ok (.lreturn, 1)) (hc : cells ≤ kc) (hs : slots ≤ ks) (hQ : Q (some (.long z)) T.heap locs) : Wk p e below (FN s Q kc ks) T (mkF m pc Ls (.long z :: S)) :=
  w_retO X hx hlocks hret rfl (Or.inr (Or.inl ⟨rfl, rfl, _, rfl⟩)) hd hc hs hQ
theorem w_callS (X : Stand p l e R s m args below meth c T locs cells slots) (hx : p.tables.exec = Jvm.exec) (hZ : Z.Warmed39 s.vm) {own : String} {index : Nat} {y : MethodName} {bytes : ByteArray} {maxL : Nat} {ret : Option FieldType} {rm : Room} {as' : Array Value} {Qc : Option Value → Heap → List Loc → Prop} (hown : s.vm.findClass own = some m.cls) (eT : T.heap = h)
    (hM : MetFree l y (head1 [Cond.code y bytes maxL ret] rm) (fun a U => a = as' ∧ Z.Warmed39 U.vm ∧ U.heap = h) (fun _ _ _ _ _ => True) (fun _ U o U' => ∃ v L, o = .returned v ∧ Qc v U'.heap L ∧ FrameEnd U o U' L rm.cells rm.slots))
    (w1 : (Cond.methodLink own index y).before a0 Z = true) (w2 : (Cond.static y).before a0 Z = true) (w3 : (Cond.initialized y.cls).before a0 Z = true) (w4 : (Cond.code y bytes maxL ret).before a0 Z = true) (hy : y.cls ≠ "java/lang/invoke/MethodHandle" ∧ y.cls ≠ "java/lang/invoke/VarHandle")
    (hsize : Ls.size = c.maxLocals) (argsL rest : List Value) (hlen : ∀ sig, parseMethodDescriptor y.desc = some sig → argsL.length = sig.parameters.length) (hst : S = argsL.reverse ++ rest) (has : argsL.toArray = as')
    (hf : rm.frames + 1 ≤ R.frames) (W : Nat) (hW : (rest.map fun v => v.category).sum = W) (hl : W + (maxL + 11) + rm.locals ≤ R.locals) (hc : cells + rm.cells ≤ R.cells) (hs : slots + rm.slots ≤ R.slots) (hd : decode c.code pc = .ok (.invokestatic index, 3)) (pc' : Nat) (hp : pc + 3 = pc')
    (k : ∀ (v : Option Value) (T' : State) (L : List Loc), Stand p l e R s m args below meth c T' (locs ++ L) (cells + rm.cells) (slots + rm.slots) → Qc v T'.heap L → Wk p e below Fe T' (mkF m pc' Ls (v.toList ++ rest))) : Wk p e below Fe T (mkF m pc Ls S) := by
  subst hp hst has hW
  obtain ⟨v, _, ⟨T', L', k', n'⟩, -, X', ⟨Lc, q1, q2, q3, q4⟩, st⟩ := Jvm.LawKit.callS X hx hown (mvT hZ w1) (mvT hZ w2) (mvT hZ w3) (mvT hZ w4) hy (backOf hM hZ w4 w3 hf hl) (g := mkF m pc Ls (argsL.reverse ++ rest)) rfl hsize hlen rfl (by show 2 * 0 + _ ≤ _; rw [Nat.mul_zero, Nat.zero_add]; exact Nat.le_refl _) hd (fun _ _ => ⟨rfl, eT, hc, hs⟩)
  dsimp only [Pt.U, Pt.locs, Pt.cells, Pt.slots] at X' q2 q3 q4 st q1
  subst q2 q3 q4
  exact (k v T' Lc X' q1).step st
theorem w_virt (X : Stand p l e R s m args below meth c T locs cells slots) (hx : p.tables.exec = Jvm.exec) (hZ : Z.Warmed39 s.vm) {own : String} {index : Nat} {y : MethodName} {bytes : ByteArray} {maxL : Nat} {ret : Option FieldType} {rm : Room} {as' : Array Value} {Qc : Option Value → Heap → List Loc → Prop} {C : String} {y0 : MethodName} (hown : s.vm.findClass own = some m.cls) (eT : T.heap = h)
    (hM : MetFree l y (head1 [Cond.code y bytes maxL ret] rm) (fun a U => a = as' ∧ Z.Warmed39 U.vm ∧ U.heap = h) (fun _ _ _ _ _ => True) (fun _ U o U' => ∃ v L, o = .returned v ∧ Qc v U'.heap L ∧ FrameEnd U o U' L rm.cells rm.slots))
    (w1 : (Cond.methodLink own index y0).before a0 Z = true) (w2 : (Cond.declares y0).before a0 Z = true) (nf : NotFace s y0) (w5 : (Cond.selects C y0 y).before a0 Z = true) (w6 : (Cond.instanceMethod y).before a0 Z = true) (w3 : (Cond.initialized y.cls).before a0 Z = true) (w4 : (Cond.code y bytes maxL ret).before a0 Z = true) (hy : y0.cls ≠ "java/lang/invoke/MethodHandle" ∧ y0.cls ≠ "java/lang/invoke/VarHandle")
    (a : Addr) (E : Exa Z h a C)
    (hsize : Ls.size = c.maxLocals) (argsL rest : List Value) (hlen : ∀ sig, parseMethodDescriptor y0.desc = some sig → argsL.length = sig.parameters.length) (hst : S = argsL.reverse ++ .ref a :: rest) (has : (Value.ref a :: argsL).toArray = as')
    (hf : rm.frames + 1 ≤ R.frames) (W : Nat) (hW : (rest.map fun v => v.category).sum = W) (hl : W + (maxL + 11) + rm.locals ≤ R.locals) (hc : cells + rm.cells ≤ R.cells) (hs : slots + rm.slots ≤ R.slots) (hd : decode c.code pc = .ok (.invokevirtual index, 3)) (pc' : Nat) (hp : pc + 3 = pc')
    (k : ∀ (v : Option Value) (T' : State) (L : List Loc), Stand p l e R s m args below meth c T' (locs ++ L) (cells + rm.cells) (slots + rm.slots) → Qc v T'.heap L → Wk p e below Fe T' (mkF m pc' Ls (v.toList ++ rest))) : Wk p e below Fe T (mkF m pc Ls S) := by
  subst hp hst has hW
  obtain ⟨cq, kq, qa, qb, qc⟩ := isOf hZ eT E
  obtain ⟨v, _, ⟨T', L', k', n'⟩, -, X', ⟨Lc, q1, q2, q3, q4⟩, st⟩ := X.virtualBack hx hown (mvT hZ w1) (mvT hZ w2) nf (mvT hZ w5) (mvT hZ w6) hy (backOf hM hZ w4 w3 hf hl) qa qc (g := mkF m pc Ls (argsL.reverse ++ .ref a :: rest)) rfl hsize (Steps.refl _) hlen rfl (by show 2 * 0 + _ ≤ _; rw [Nat.mul_zero, Nat.zero_add]; exact Nat.le_refl _) hd (fun _ _ => ⟨rfl, eT, hc, hs⟩)
  dsimp only [Pt.U, Pt.locs, Pt.cells, Pt.slots] at X' q2 q3 q4 st q1
  subst q2 q3 q4
  exact (k v T' Lc X' q1).come st
theorem w_getS (X : Stand p l e R s m args below meth c T locs cells slots) (hx : p.tables.exec = Jvm.exec) (hZ : Z.Warmed39 s.vm) {own R0 O n d host : String} {index : Nat} (hown : s.vm.findClass own = some m.cls) (eT : T.heap = h) (w : (Cond.fieldLink own index R0 n d).before a0 Z = true ∨ (Cond.fieldLinkNest own index R0 n d host).before a0 Z = true) (via : Via Z R0 O n d)
    {v : Value} (F : Sta Z h O n d v) (hd : decode c.code pc = .ok (.getstatic index, 3)) (pc' : Nat) (hp : pc + 3 = pc')
    (k : ∀ T' : State, Stand p l e R s m args below meth c T' locs cells slots → T'.heap = h → Wk p e below Fe T' (mkF m pc' Ls (v :: S))) : Wk p e below Fe T (mkF m pc Ls S) := by
  subst hp
  obtain ⟨T', X', e', st⟩ := getS2 X hx hZ hown w via eT F (g := mkF m pc Ls S) rfl hd
  exact (k T' X' e').step st
abbrev CT (l : Launch) (y : MethodName) (bytes : ByteArray) (maxL : Nat) (ret : Option FieldType) (ws : List Cond) (rm : Room) (as' : Array Value) (Z : State) (h0 : Heap) (Q : Option Value → Heap → List Loc → Prop) : Prop :=
  MetFree l y (head1 (Cond.code y bytes maxL ret :: ws) rm) (fun a U => a = as' ∧ Z.Warmed39 U.vm ∧ U.heap = h0) (fun _ _ _ _ _ => True) (fun _ U o U' => ∃ v L, o = .returned v ∧ Q v U'.heap L ∧ FrameEnd U o U' L rm.cells rm.slots)
theorem body_of {y : MethodName} {bytes : ByteArray} {maxL : Nat} {ret : Option FieldType} {ws : List Cond} {rm : Room} {as' : Array Value} {h0 : Heap} (hpl : plainFor y = true)
    (k : ∀ (p : Program) (e : Env) (s : State) (m : MethodId) (below : List Frame) (meth : Method) (c : Code) (s₁ : State), p.tables.exec = Jvm.exec → (∀ {pc : Nat} {r : Except DecodeError (Instr × Nat)}, decode bytes pc = r → decode c.code pc = r) → meth.sig.returnType = ret → meth.locks = false → c.maxLocals = maxL → s.vm.findClass y.cls = some m.cls → meth.name = y.name → Stand p l e rm s m as' below meth c s₁ [] 0 0 → s₁.heap = h0 → Z.Warmed39 s.vm → Wk p e below (FN s Q kc ks) s₁ (entryFrame m as' maxL)) :
    MetFree l y (head1 (Cond.code y bytes maxL ret :: ws) rm) (fun a U => a = as' ∧ Z.Warmed39 U.vm ∧ U.heap = h0) (fun _ _ _ _ _ => True) (fun _ U o U' => ∃ v L, o = .returned v ∧ Q v U'.heap L ∧ FrameEnd U o U' L kc ks) := by
  refine MetFree.of_bodySF hpl hisR ?_
  intro p e s m args below meth c s₁ Bd hml0 hP hK
  obtain ⟨rfl, hZ, hh⟩ := hP
  obtain ⟨s₂, o, h1, h2⟩ := k p e s m below meth c s₁ Bd.exec (fun q => hb Bd.bytes q) Bd.returns Bd.notSynchronized hml0 (findClass_of_methodNamed Bd.named) (name_of_methodNamed Bd.named Bd.method).1 (Stand.of_body Bd) (by rw [← hh, Bd.state]; rfl) hZ
  exact ⟨s₂, o, h1, h2⟩
theorem eqInt_v {a : Term} {k : Int32} {first s' : State} {o : Option Outcome} {idx : List Nat} (h : (Cond.eq a (.int k)).value args first o s' idx = some true) : a.eval args first o idx s' = some (.int k) := by
  cases ha : a.eval args first o idx s' with
  | none => simp [Cond.value, ha] at h
  | some x => cases x <;> simp [Cond.value, ha, Term.eval] at h ⊢; exact h
end Walk
/-! plain facts on Int32 and Int64, in Ints -/
theorem lcmpC (x y : Int64) {A B : Int} (ha : x.toInt = A) (hb : y.toInt = B) : ((lcmpW x y).toInt = -1 ∧ A < B) ∨ ((lcmpW x y).toInt = 0 ∧ A = B) ∨ ((lcmpW x y).toInt = 1 ∧ B < A) := by
  have := c_lcmp x y; subst ha hb; omega
theorem maskX {x m : Int32} {A : Int} (k : Nat) (ha : x.toInt = A) (hk : k ≤ 31) (hm : m.toBitVec.toNat = 2 ^ k - 1) : (x &&& m).toInt = A % (2 ^ k : Nat) := by subst ha; exact c_mask x m k hk hm
end Jvm.Own
namespace Jvm.Pilot.@@N@@
open Jvm Jvm.ClassFile Sem Op Lib Jvm.Free Jvm.Stand Jvm.LawKit Jvm.RoadKit Bundle Jvm.Own Jvm.Pilot.@@N@@.Jvm.D
abbrev cN_0 : String := "com/example/urd/urd/ctl/ForwardSearch$Timing"
abbrev cN_1 : String := "Lcom/example/urd/urd/ctl/ForwardSearch$Timing;"
abbrev cN_2 : String := "java/lang/Math"
abbrev cN_3 : String := "java/lang/Enum"
abbrev cN_4 : String := "com/example/urd/urd/ctl/TimingIsBetterPinLaw"
theorem tw_0 {Z : State} {a0 : Array Value} (hw : ∀ d ∈ tables_1, d.before a0 Z = true) : (Jvm.Cond.fieldLink "com/example/urd/urd/ctl/TimingIsBetterPinLaw" (7 : Nat) "com/example/urd/urd/ctl/ForwardSearch$Timing" "EARLIEST" "Lcom/example/urd/urd/ctl/ForwardSearch$Timing;").before a0 Z = true := hw _ (List.mem_of_getElem? (i := 0) rfl)
theorem tw_1 {Z : State} {a0 : Array Value} (hw : ∀ d ∈ tables_1, d.before a0 Z = true) : (Jvm.Cond.initialized "com/example/urd/urd/ctl/ForwardSearch$Timing").before a0 Z = true := hw _ (List.mem_of_getElem? (i := 1) rfl)
theorem tw_2 {Z : State} {a0 : Array Value} (hw : ∀ d ∈ tables_1, d.before a0 Z = true) : (Jvm.Cond.laysStatic "com/example/urd/urd/ctl/ForwardSearch$Timing" "EARLIEST" "Lcom/example/urd/urd/ctl/ForwardSearch$Timing;").before a0 Z = true := hw _ (List.mem_of_getElem? (i := 2) rfl)
theorem tw_3 {Z : State} {a0 : Array Value} (hw : ∀ d ∈ tables_1, d.before a0 Z = true) : (Jvm.Cond.methodLink "com/example/urd/urd/ctl/TimingIsBetterPinLaw" (16 : Nat) ({ cls := "com/example/urd/urd/ctl/ForwardSearch$Timing", name := "isBetter", desc := "(JJ)Z" } : Jvm.MethodName)).before a0 Z = true := hw _ (List.mem_of_getElem? (i := 3) rfl)
theorem tw_4 {Z : State} {a0 : Array Value} (hw : ∀ d ∈ tables_1, d.before a0 Z = true) : (Jvm.Cond.declares ({ cls := "com/example/urd/urd/ctl/ForwardSearch$Timing", name := "isBetter", desc := "(JJ)Z" } : Jvm.MethodName)).before a0 Z = true := hw _ (List.mem_of_getElem? (i := 4) rfl)
theorem tw_5 {Z : State} {a0 : Array Value} (hw : ∀ d ∈ tables_1, d.before a0 Z = true) : (Jvm.Cond.instanceMethod ({ cls := "com/example/urd/urd/ctl/ForwardSearch$Timing", name := "isBetter", desc := "(JJ)Z" } : Jvm.MethodName)).before a0 Z = true := hw _ (List.mem_of_getElem? (i := 5) rfl)
theorem tw_6 {Z : State} {a0 : Array Value} (hw : ∀ d ∈ tables_1, d.before a0 Z = true) : (Jvm.Cond.selects "com/example/urd/urd/ctl/ForwardSearch$Timing" ({ cls := "com/example/urd/urd/ctl/ForwardSearch$Timing", name := "isBetter", desc := "(JJ)Z" } : Jvm.MethodName) ({ cls := "com/example/urd/urd/ctl/ForwardSearch$Timing", name := "isBetter", desc := "(JJ)Z" } : Jvm.MethodName)).before a0 Z = true := hw _ (List.mem_of_getElem? (i := 6) rfl)
theorem tw_7 {Z : State} {a0 : Array Value} (hw : ∀ d ∈ tables_1, d.before a0 Z = true) : (Jvm.Cond.code ({ cls := "com/example/urd/urd/ctl/ForwardSearch$Timing", name := "isBetter", desc := "(JJ)Z" } : Jvm.MethodName) prog_32_method_5_code (5 : Nat) (Option.some Jvm.ClassFile.FieldType.boolean)).before a0 Z = true := hw _ (List.mem_of_getElem? (i := 7) rfl)
theorem tw_8 {Z : State} {a0 : Array Value} (hw : ∀ d ∈ tables_1, d.before a0 Z = true) : (Jvm.Cond.fieldLink "com/example/urd/urd/ctl/ForwardSearch$Timing" (3 : Nat) "com/example/urd/urd/ctl/ForwardSearch$Timing" "EARLIEST" "Lcom/example/urd/urd/ctl/ForwardSearch$Timing;").before a0 Z = true := hw _ (List.mem_of_getElem? (i := 8) rfl)
theorem tw_9 {Z : State} {a0 : Array Value} (hw : ∀ d ∈ tables_1, d.before a0 Z = true) : (Jvm.Cond.methodLink "com/example/urd/urd/ctl/TimingIsBetterPinLaw" (20 : Nat) ({ cls := "java/lang/Math", name := "min", desc := "(JJ)J" } : Jvm.MethodName)).before a0 Z = true := hw _ (List.mem_of_getElem? (i := 9) rfl)
theorem tw_10 {Z : State} {a0 : Array Value} (hw : ∀ d ∈ tables_1, d.before a0 Z = true) : (Jvm.Cond.static ({ cls := "java/lang/Math", name := "min", desc := "(JJ)J" } : Jvm.MethodName)).before a0 Z = true := hw _ (List.mem_of_getElem? (i := 10) rfl)
theorem tw_11 {Z : State} {a0 : Array Value} (hw : ∀ d ∈ tables_1, d.before a0 Z = true) : (Jvm.Cond.initialized "java/lang/Math").before a0 Z = true := hw _ (List.mem_of_getElem? (i := 11) rfl)
theorem tw_12 {Z : State} {a0 : Array Value} (hw : ∀ d ∈ tables_1, d.before a0 Z = true) : (Jvm.Cond.code ({ cls := "java/lang/Math", name := "min", desc := "(JJ)J" } : Jvm.MethodName) jdk_29_method_70_code (4 : Nat) (Option.some Jvm.ClassFile.FieldType.long)).before a0 Z = true := hw _ (List.mem_of_getElem? (i := 12) rfl)
theorem tw_13 {Z : State} {a0 : Array Value} (hw : ∀ d ∈ tables_1, d.before a0 Z = true) : (Jvm.Cond.fieldLink "com/example/urd/urd/ctl/TimingIsBetterPinLaw" (13 : Nat) "com/example/urd/urd/ctl/ForwardSearch$Timing" "LATEST" "Lcom/example/urd/urd/ctl/ForwardSearch$Timing;").before a0 Z = true := hw _ (List.mem_of_getElem? (i := 13) rfl)
theorem tw_14 {Z : State} {a0 : Array Value} (hw : ∀ d ∈ tables_1, d.before a0 Z = true) : (Jvm.Cond.laysStatic "com/example/urd/urd/ctl/ForwardSearch$Timing" "LATEST" "Lcom/example/urd/urd/ctl/ForwardSearch$Timing;").before a0 Z = true := hw _ (List.mem_of_getElem? (i := 14) rfl)
theorem tw_15 {Z : State} {a0 : Array Value} (hw : ∀ d ∈ tables_1, d.before a0 Z = true) : (Jvm.Cond.methodLink "com/example/urd/urd/ctl/TimingIsBetterPinLaw" (26 : Nat) ({ cls := "java/lang/Math", name := "max", desc := "(JJ)J" } : Jvm.MethodName)).before a0 Z = true := hw _ (List.mem_of_getElem? (i := 15) rfl)
theorem tw_16 {Z : State} {a0 : Array Value} (hw : ∀ d ∈ tables_1, d.before a0 Z = true) : (Jvm.Cond.static ({ cls := "java/lang/Math", name := "max", desc := "(JJ)J" } : Jvm.MethodName)).before a0 Z = true := hw _ (List.mem_of_getElem? (i := 16) rfl)
theorem tw_17 {Z : State} {a0 : Array Value} (hw : ∀ d ∈ tables_1, d.before a0 Z = true) : (Jvm.Cond.code ({ cls := "java/lang/Math", name := "max", desc := "(JJ)J" } : Jvm.MethodName) jdk_29_method_66_code (4 : Nat) (Option.some Jvm.ClassFile.FieldType.long)).before a0 Z = true := hw _ (List.mem_of_getElem? (i := 17) rfl)
theorem d1_0 : decode prog_32_method_5_code 0 = .ok (.aload_n 0, 1) := by decide +kernel
theorem d1_1 : decode prog_32_method_5_code 1 = .ok (.getstatic 3, 3) := by decide +kernel
theorem d1_4 : decode prog_32_method_5_code 4 = .ok (.if_acmp .ne 17, 3) := by decide +kernel
theorem d1_7 : decode prog_32_method_5_code 7 = .ok (.lload_n 1, 1) := by decide +kernel
theorem d1_8 : decode prog_32_method_5_code 8 = .ok (.lload_n 3, 1) := by decide +kernel
theorem d1_9 : decode prog_32_method_5_code 9 = .ok (.lcmp, 1) := by decide +kernel
theorem d1_10 : decode prog_32_method_5_code 10 = .ok (.ifCond .ge 7, 3) := by decide +kernel
theorem d1_13 : decode prog_32_method_5_code 13 = .ok (.iconst 1, 1) := by decide +kernel
theorem d1_14 : decode prog_32_method_5_code 14 = .ok (.goto 18, 3) := by decide +kernel
theorem d1_17 : decode prog_32_method_5_code 17 = .ok (.iconst 0, 1) := by decide +kernel
theorem d1_18 : decode prog_32_method_5_code 18 = .ok (.goto 14, 3) := by decide +kernel
theorem d1_32 : decode prog_32_method_5_code 32 = .ok (.ireturn, 1) := by decide +kernel
theorem pn_0 : plainName "com/example/urd/urd/ctl/ForwardSearch$Timing" = true := by first | (simp [plainName, overriddenIn]; done) | decide +kernel
abbrev mN_1 : MethodName := ⟨"com/example/urd/urd/ctl/ForwardSearch$Timing", "isBetter", "(JJ)Z"⟩
theorem d1_21 : decode prog_32_method_5_code 21 = .ok (.lload_n 1, 1) := by decide +kernel
theorem d1_22 : decode prog_32_method_5_code 22 = .ok (.lload_n 3, 1) := by decide +kernel
theorem d1_23 : decode prog_32_method_5_code 23 = .ok (.lcmp, 1) := by decide +kernel
theorem d1_24 : decode prog_32_method_5_code 24 = .ok (.ifCond .le 7, 3) := by decide +kernel
theorem d1_27 : decode prog_32_method_5_code 27 = .ok (.iconst 1, 1) := by decide +kernel
theorem d1_28 : decode prog_32_method_5_code 28 = .ok (.goto 4, 3) := by decide +kernel
theorem d1_31 : decode prog_32_method_5_code 31 = .ok (.iconst 0, 1) := by decide +kernel
theorem d2_0 : decode jdk_29_method_70_code 0 = .ok (.lload_n 0, 1) := by decide +kernel
theorem d2_1 : decode jdk_29_method_70_code 1 = .ok (.lload_n 2, 1) := by decide +kernel
theorem d2_2 : decode jdk_29_method_70_code 2 = .ok (.lcmp, 1) := by decide +kernel
theorem d2_3 : decode jdk_29_method_70_code 3 = .ok (.ifCond .gt 7, 3) := by decide +kernel
theorem d2_6 : decode jdk_29_method_70_code 6 = .ok (.lload_n 0, 1) := by decide +kernel
theorem d2_7 : decode jdk_29_method_70_code 7 = .ok (.goto 4, 3) := by decide +kernel
theorem d2_10 : decode jdk_29_method_70_code 10 = .ok (.lload_n 2, 1) := by decide +kernel
theorem d2_11 : decode jdk_29_method_70_code 11 = .ok (.lreturn, 1) := by decide +kernel
abbrev mN_2 : MethodName := ⟨"java/lang/Math", "min", "(JJ)J"⟩
theorem d3_0 : decode jdk_29_method_66_code 0 = .ok (.lload_n 0, 1) := by decide +kernel
theorem d3_1 : decode jdk_29_method_66_code 1 = .ok (.lload_n 2, 1) := by decide +kernel
theorem d3_2 : decode jdk_29_method_66_code 2 = .ok (.lcmp, 1) := by decide +kernel
theorem d3_3 : decode jdk_29_method_66_code 3 = .ok (.ifCond .lt 7, 3) := by decide +kernel
theorem d3_6 : decode jdk_29_method_66_code 6 = .ok (.lload_n 0, 1) := by decide +kernel
theorem d3_7 : decode jdk_29_method_66_code 7 = .ok (.goto 4, 3) := by decide +kernel
theorem d3_10 : decode jdk_29_method_66_code 10 = .ok (.lload_n 2, 1) := by decide +kernel
theorem d3_11 : decode jdk_29_method_66_code 11 = .ok (.lreturn, 1) := by decide +kernel
abbrev mN_3 : MethodName := ⟨"java/lang/Math", "max", "(JJ)J"⟩
theorem pd_0 : parseMethodDescriptor "(JJ)Z" = some ⟨[.long, .long], some .boolean⟩ := by decide +kernel
theorem pd_1 : parseMethodDescriptor "(JJ)J" = some ⟨[.long, .long], some .long⟩ := by decide +kernel
theorem pn_1 : plainName "com/example/urd/urd/ctl/TimingIsBetterPinLaw" = true := by first | (simp [plainName, overriddenIn]; done) | decide +kernel
theorem ef_1e (m : MethodId) (x0 : Addr) (x1 : Int64) (x2 : Int64) : entryFrame m #[(.ref x0), (.long x1), (.long x2)] 5 = mkF m 0 #[.val (.ref x0), .val (.long x1), .second, .val (.long x2), .second] [] := by first | (simp [entryFrame, mkF, argsToLocals, Value.category]; done) | rfl
def Q1e (Z : State) (a : Addr) (t : Int64) (u : Int64) (h0 : Heap) (n0 : Nat) (v : Option Value) (h : Heap) (L : List Loc) : Prop := ∃ z : Int32, v = some (.int z) ∧ ((z.toInt = 1 ∧ (t.toInt < u.toInt)) ∨ (z.toInt = 0 ∧ ¬ (t.toInt < u.toInt))) ∧ Fr n0 L ∧ h = h0
set_option maxRecDepth 65536 in
set_option maxHeartbeats 40000000 in
theorem rm1e (l : Launch) (Z : State) (a0 : Array Value) (hw : ∀ d ∈ tables_1, d.before a0 Z = true) (ws : List Jvm.Cond) (a : Addr) (t : Int64) (u : Int64) (h0 : Heap) (n0 : Nat) (Z0 : n0 ≤ h0.size) (S_E : Sta Z h0 cN_0 "EARLIEST" cN_1 (.ref a)) :
    CT l mN_1 prog_32_method_5_code 5 (some .boolean) ws ({ frames := 0, cells := 0, slots := 0, locals := 0 } : Room) #[(.ref a), (.long t), (.long u)] Z h0 (Q1e Z a t u h0 n0) := by
  refine body_of (plainFor_of_name pn_0) ?_
  intro p e s m below meth c s₁ hx dB hret hlk hml hown0 hnm X0 e0 hZ
  have hown : s.vm.findClass cN_0 = some m.cls := hown0
  have N0 := Fr.nil n0
  rw [ef_1e]
  show Wk p e below (FN s (Q1e Z a t u h0 n0) 0 0) s₁ (mkF m 0 #[.val (.ref a), .val (.long t), .second, .val (.long u), .second] [])
  have r_t := rng64 t
  have r_u := rng64 u
  refine w_aloadN X0 hx (.ref a) (dB d1_0) 1 rfl rfl rfl ?_
  refine w_getS X0 hx hZ hown e0 (host := "") (Or.inl (tw_8 hw)) Via.refl S_E (dB d1_1) 4 rfl (fun T1 X1 e1 => ?_)
  refine w_acmp X1 hx rfl rfl (dB d1_4) true (decide_eq_true rfl) 7 (by decide) (by decide) ?_
  refine w_lloadN X1 hx t (dB d1_7) 8 rfl rfl ?_
  refine w_lloadN X1 hx u (dB d1_8) 9 rfl rfl ?_
  obtain ⟨v2, e2⟩ : ∃ z : Int32, z = lcmpW t u := ⟨_, rfl⟩
  have n2 : (v2.toInt = -1 ∧ t.toInt < u.toInt) ∨ (v2.toInt = 0 ∧ t.toInt = u.toInt) ∨ (v2.toInt = 1 ∧ u.toInt < t.toInt) := by rw [e2]; exact lcmpC _ _ rfl rfl
  refine w_lcmp X1 hx (dB d1_9) 10 rfl e2 ?_
  refine w_if_ge X1 hx v2.toInt rfl (dB d1_10) 17 13 (fun c3 => ?_) (fun c3 => ?_)
  ·refine w_iconst X1 hx (dB d1_17) 18 rfl (0 : Int32) (by decide) ?_
   refine w_goto X1 hx (dB d1_18) 32 ?_
   refine w_retN X1 hx hlk (t := .boolean) hret (by simp) (dB d1_32) (by decide) (by decide) ?_
   rw [e1]
   exact ⟨(0 : Int32), rfl, by have hz : (0 : Int32).toInt = 0 := (by decide); omega, N0, rfl⟩
  ·refine w_iconst X1 hx (dB d1_13) 14 rfl (1 : Int32) (by decide) ?_
   refine w_goto X1 hx (dB d1_14) 32 ?_
   refine w_retN X1 hx hlk (t := .boolean) hret (by simp) (dB d1_32) (by decide) (by decide) ?_
   rw [e1]
   exact ⟨(1 : Int32), rfl, by have hz : (1 : Int32).toInt = 1 := (by decide); omega, N0, rfl⟩
theorem ef_1l (m : MethodId) (x0 : Addr) (x1 : Int64) (x2 : Int64) : entryFrame m #[(.ref x0), (.long x1), (.long x2)] 5 = mkF m 0 #[.val (.ref x0), .val (.long x1), .second, .val (.long x2), .second] [] := by first | (simp [entryFrame, mkF, argsToLocals, Value.category]; done) | rfl
def Q1l (Z : State) (a : Addr) (t : Int64) (u : Int64) (ea : Addr) (h0 : Heap) (n0 : Nat) (v : Option Value) (h : Heap) (L : List Loc) : Prop := ∃ z : Int32, v = some (.int z) ∧ ((z.toInt = 1 ∧ (u.toInt < t.toInt)) ∨ (z.toInt = 0 ∧ ¬ (u.toInt < t.toInt))) ∧ Fr n0 L ∧ h = h0
set_option maxRecDepth 65536 in
set_option maxHeartbeats 40000000 in
theorem rm1l (l : Launch) (Z : State) (a0 : Array Value) (hw : ∀ d ∈ tables_1, d.before a0 Z = true) (ws : List Jvm.Cond) (a : Addr) (t : Int64) (u : Int64) (ea : Addr) (h0 : Heap) (n0 : Nat) (Z0 : n0 ≤ h0.size) (S_E : Sta Z h0 cN_0 "EARLIEST" cN_1 (.ref ea)) (ne1 : a ≠ ea) :
    CT l mN_1 prog_32_method_5_code 5 (some .boolean) ws ({ frames := 0, cells := 0, slots := 0, locals := 0 } : Room) #[(.ref a), (.long t), (.long u)] Z h0 (Q1l Z a t u ea h0 n0) := by
  refine body_of (plainFor_of_name pn_0) ?_
  intro p e s m below meth c s₁ hx dB hret hlk hml hown0 hnm X0 e0 hZ
  have hown : s.vm.findClass cN_0 = some m.cls := hown0
  have N0 := Fr.nil n0
  rw [ef_1l]
  show Wk p e below (FN s (Q1l Z a t u ea h0 n0) 0 0) s₁ (mkF m 0 #[.val (.ref a), .val (.long t), .second, .val (.long u), .second] [])
  have r_t := rng64 t
  have r_u := rng64 u
  refine w_aloadN X0 hx (.ref a) (dB d1_0) 1 rfl rfl rfl ?_
  refine w_getS X0 hx hZ hown e0 (host := "") (Or.inl (tw_8 hw)) Via.refl S_E (dB d1_1) 4 rfl (fun T4 X4 e4 => ?_)
  refine w_acmp X4 hx rfl rfl (dB d1_4) false (decide_eq_false fun q => ne1 (Value.ref.inj q)) 21 (by decide) (by decide) ?_
  refine w_lloadN X4 hx t (dB d1_21) 22 rfl rfl ?_
  refine w_lloadN X4 hx u (dB d1_22) 23 rfl rfl ?_
  obtain ⟨v5, e5⟩ : ∃ z : Int32, z = lcmpW t u := ⟨_, rfl⟩
  have n5 : (v5.toInt = -1 ∧ t.toInt < u.toInt) ∨ (v5.toInt = 0 ∧ t.toInt = u.toInt) ∨ (v5.toInt = 1 ∧ u.toInt < t.toInt) := by rw [e5]; exact lcmpC _ _ rfl rfl
  refine w_lcmp X4 hx (dB d1_23) 24 rfl e5 ?_
  refine w_if_le X4 hx v5.toInt rfl (dB d1_24) 31 27 (fun c6 => ?_) (fun c6 => ?_)
  ·refine w_iconst X4 hx (dB d1_31) 32 rfl (0 : Int32) (by decide) ?_
   refine w_retN X4 hx hlk (t := .boolean) hret (by simp) (dB d1_32) (by decide) (by decide) ?_
   rw [e4]
   exact ⟨(0 : Int32), rfl, by have hz : (0 : Int32).toInt = 0 := (by decide); omega, N0, rfl⟩
  ·refine w_iconst X4 hx (dB d1_27) 28 rfl (1 : Int32) (by decide) ?_
   refine w_goto X4 hx (dB d1_28) 32 ?_
   refine w_retN X4 hx hlk (t := .boolean) hret (by simp) (dB d1_32) (by decide) (by decide) ?_
   rw [e4]
   exact ⟨(1 : Int32), rfl, by have hz : (1 : Int32).toInt = 1 := (by decide); omega, N0, rfl⟩
theorem ef_2 (m : MethodId) (x0 : Int64) (x1 : Int64) : entryFrame m #[(.long x0), (.long x1)] 4 = mkF m 0 #[.val (.long x0), .second, .val (.long x1), .second] [] := by first | (simp [entryFrame, mkF, argsToLocals, Value.category]; done) | rfl
def Q2 (Z : State) (x : Int64) (y : Int64) (h0 : Heap) (n0 : Nat) (v : Option Value) (h : Heap) (L : List Loc) : Prop := ∃ z : Int64, v = some (.long z) ∧ ((x.toInt ≤ y.toInt ∧ z.toInt = x.toInt) ∨ (y.toInt < x.toInt ∧ z.toInt = y.toInt)) ∧ Fr n0 L ∧ h = h0
set_option maxRecDepth 65536 in
set_option maxHeartbeats 40000000 in
theorem rm2 (l : Launch) (Z : State) (a0 : Array Value) (hw : ∀ d ∈ tables_1, d.before a0 Z = true) (ws : List Jvm.Cond) (x : Int64) (y : Int64) (h0 : Heap) (n0 : Nat) (Z0 : n0 ≤ h0.size) :
    CT l mN_2 jdk_29_method_70_code 4 (some .long) ws ({ frames := 0, cells := 0, slots := 0, locals := 0 } : Room) #[(.long x), (.long y)] Z h0 (Q2 Z x y h0 n0) := by
  refine body_of (Jvm.Free.JP.mathPlain rfl (by decide +kernel)) ?_
  intro p e s m below meth c s₁ hx dB hret hlk hml hown0 hnm X0 e0 hZ
  have hown : s.vm.findClass cN_2 = some m.cls := hown0
  have N0 := Fr.nil n0
  rw [ef_2]
  show Wk p e below (FN s (Q2 Z x y h0 n0) 0 0) s₁ (mkF m 0 #[.val (.long x), .second, .val (.long y), .second] [])
  have r_x := rng64 x
  have r_y := rng64 y
  refine w_lloadN X0 hx x (dB d2_0) 1 rfl rfl ?_
  refine w_lloadN X0 hx y (dB d2_1) 2 rfl rfl ?_
  obtain ⟨v7, e7⟩ : ∃ z : Int32, z = lcmpW x y := ⟨_, rfl⟩
  have n7 : (v7.toInt = -1 ∧ x.toInt < y.toInt) ∨ (v7.toInt = 0 ∧ x.toInt = y.toInt) ∨ (v7.toInt = 1 ∧ y.toInt < x.toInt) := by rw [e7]; exact lcmpC _ _ rfl rfl
  refine w_lcmp X0 hx (dB d2_2) 3 rfl e7 ?_
  refine w_if_gt X0 hx v7.toInt rfl (dB d2_3) 10 6 (fun c8 => ?_) (fun c8 => ?_)
  ·refine w_lloadN X0 hx y (dB d2_10) 11 rfl rfl ?_
   refine w_retL X0 hx hlk hret (dB d2_11) (by decide) (by decide) ?_
   rw [e0]
   exact ⟨y, rfl, by have hz : y.toInt = y.toInt := rfl; omega, N0, rfl⟩
  ·refine w_lloadN X0 hx x (dB d2_6) 7 rfl rfl ?_
   refine w_goto X0 hx (dB d2_7) 11 ?_
   refine w_retL X0 hx hlk hret (dB d2_11) (by decide) (by decide) ?_
   rw [e0]
   exact ⟨x, rfl, by have hz : x.toInt = x.toInt := rfl; omega, N0, rfl⟩
theorem ef_3 (m : MethodId) (x0 : Int64) (x1 : Int64) : entryFrame m #[(.long x0), (.long x1)] 4 = mkF m 0 #[.val (.long x0), .second, .val (.long x1), .second] [] := by first | (simp [entryFrame, mkF, argsToLocals, Value.category]; done) | rfl
def Q3 (Z : State) (x : Int64) (y : Int64) (h0 : Heap) (n0 : Nat) (v : Option Value) (h : Heap) (L : List Loc) : Prop := ∃ z : Int64, v = some (.long z) ∧ ((y.toInt ≤ x.toInt ∧ z.toInt = x.toInt) ∨ (x.toInt < y.toInt ∧ z.toInt = y.toInt)) ∧ Fr n0 L ∧ h = h0
set_option maxRecDepth 65536 in
set_option maxHeartbeats 40000000 in
theorem rm3 (l : Launch) (Z : State) (a0 : Array Value) (hw : ∀ d ∈ tables_1, d.before a0 Z = true) (ws : List Jvm.Cond) (x : Int64) (y : Int64) (h0 : Heap) (n0 : Nat) (Z0 : n0 ≤ h0.size) :
    CT l mN_3 jdk_29_method_66_code 4 (some .long) ws ({ frames := 0, cells := 0, slots := 0, locals := 0 } : Room) #[(.long x), (.long y)] Z h0 (Q3 Z x y h0 n0) := by
  refine body_of (Jvm.Free.JP.mathPlain rfl (by decide +kernel)) ?_
  intro p e s m below meth c s₁ hx dB hret hlk hml hown0 hnm X0 e0 hZ
  have hown : s.vm.findClass cN_2 = some m.cls := hown0
  have N0 := Fr.nil n0
  rw [ef_3]
  show Wk p e below (FN s (Q3 Z x y h0 n0) 0 0) s₁ (mkF m 0 #[.val (.long x), .second, .val (.long y), .second] [])
  have r_x := rng64 x
  have r_y := rng64 y
  refine w_lloadN X0 hx x (dB d3_0) 1 rfl rfl ?_
  refine w_lloadN X0 hx y (dB d3_1) 2 rfl rfl ?_
  obtain ⟨v9, e9⟩ : ∃ z : Int32, z = lcmpW x y := ⟨_, rfl⟩
  have n9 : (v9.toInt = -1 ∧ x.toInt < y.toInt) ∨ (v9.toInt = 0 ∧ x.toInt = y.toInt) ∨ (v9.toInt = 1 ∧ y.toInt < x.toInt) := by rw [e9]; exact lcmpC _ _ rfl rfl
  refine w_lcmp X0 hx (dB d3_2) 3 rfl e9 ?_
  refine w_if_lt X0 hx v9.toInt rfl (dB d3_3) 10 6 (fun c10 => ?_) (fun c10 => ?_)
  ·refine w_lloadN X0 hx y (dB d3_10) 11 rfl rfl ?_
   refine w_retL X0 hx hlk hret (dB d3_11) (by decide) (by decide) ?_
   rw [e0]
   exact ⟨y, rfl, by have hz : y.toInt = y.toInt := rfl; omega, N0, rfl⟩
  ·refine w_lloadN X0 hx x (dB d3_6) 7 rfl rfl ?_
   refine w_goto X0 hx (dB d3_7) 11 ?_
   refine w_retL X0 hx hlk hret (dB d3_11) (by decide) (by decide) ?_
   rw [e0]
   exact ⟨x, rfl, by have hz : x.toInt = x.toInt := rfl; omega, N0, rfl⟩
theorem ef_0 (m : MethodId) (x0 : Int64) (x1 : Int64) (x2 : Int32) : entryFrame m #[(.long x0), (.long x1), (.int x2)] maxLocals = mkF m 0 #[.val (.long x0), .second, .val (.long x1), .second, .val (.int x2), .unset, .unset, .unset, .unset, .unset] [] := by first | (simp [entryFrame, mkF, argsToLocals, Value.category, maxLocals]; done) | rfl
def Q0 (Z : State) (t : Int64) (u : Int64) (flag : Int32) (st_EARLIEST : Addr) (st_LATEST : Addr) (h0 : Heap) (n0 : Nat) (v : Option Value) (h : Heap) (L : List Loc) : Prop := v = some (.int 1) ∧ Fr n0 L
set_option maxRecDepth 65536 in
set_option maxHeartbeats 40000000 in
theorem rm0 (l : Launch) (Z : State) (a0 : Array Value) (hw : ∀ d ∈ tables_1, d.before a0 Z = true) (ws : List Jvm.Cond) (t : Int64) (u : Int64) (flag : Int32) (st_EARLIEST : Addr) (st_LATEST : Addr) (h0 : Heap) (n0 : Nat) (Z0 : n0 ≤ h0.size) (S_st_EARLIEST : Sta Z h0 cN_0 "EARLIEST" cN_1 (.ref st_EARLIEST)) (E_st_EARLIEST : Exa Z h0 st_EARLIEST cN_0) (S_st_LATEST : Sta Z h0 cN_0 "LATEST" cN_1 (.ref st_LATEST)) (E_st_LATEST : Exa Z h0 st_LATEST cN_0) (F_ordinal_st_LATEST : Fld Z h0 st_LATEST cN_3 "ordinal" "I" (.int (1 : Int32))) (F_ordinal_st_EARLIEST : Fld Z h0 st_EARLIEST cN_3 "ordinal" "I" (.int (0 : Int32))) :
    MetFree l x (head1 (Jvm.Cond.code x code maxLocals ret :: ws) room_1) (fun as_ U => as_ = #[(.long t), (.long u), (.int flag)] ∧ Z.Warmed39 U.vm ∧ U.heap = h0) (fun _ _ _ _ _ => True) (fun _ U o U' => ∃ v L, o = .returned v ∧ Q0 Z t u flag st_EARLIEST st_LATEST h0 n0 v U'.heap L ∧ FrameEnd U o U' L 0 0) := by
  refine body_of (plainFor_of_name pn_1) ?_
  intro p e s m below meth c s₁ hx dB hret hlk hml hown0 hnm X0 e0 hZ
  have hown : s.vm.findClass cN_4 = some m.cls := hown0
  have N0 := Fr.nil n0
  rw [ef_0]
  show Wk p e below (FN s (Q0 Z t u flag st_EARLIEST st_LATEST h0 n0) 0 0) s₁ (mkF m 0 #[.val (.long t), .second, .val (.long u), .second, .val (.int flag), .unset, .unset, .unset, .unset, .unset] [])
  have r_t := rng64 t
  have r_u := rng64 u
  have r_flag := rng32 flag
  have ne_ : st_EARLIEST ≠ st_LATEST := Fld.ne F_ordinal_st_EARLIEST F_ordinal_st_LATEST (by decide)
  refine w_iload X0 hx flag (dB at_0) 2 rfl rfl ?_
  refine w_iconst X0 hx (dB at_2) 3 rfl (1 : Int32) (by decide) ?_
  obtain ⟨v11, e11⟩ : ∃ z : Int32, z = flag &&& (1 : Int32) := ⟨_, rfl⟩
  have n11 : v11.toInt = flag.toInt % 2 := by rw [e11]; exact maskX 1 rfl (by decide) (by decide)
  refine w_iand X0 hx (dB at_3) 4 rfl e11 ?_
  refine w_if_ne X0 hx v11.toInt rfl (dB at_4) 11 7 (fun c12 => ?_) (fun c12 => ?_)
  ·refine w_iconst X0 hx (dB at_11) 12 rfl (0 : Int32) (by decide) ?_
   refine w_istore X0 hx (dB at_12) 14 rfl #[.val (.long t), .second, .val (.long u), .second, .val (.int flag), .val (.int (0 : Int32)), .unset, .unset, .unset, .unset] rfl ?_
   refine w_iload X0 hx (0 : Int32) (dB at_14) 16 rfl rfl ?_
   refine w_if_eq X0 hx 0 (by decide) (dB at_16) 25 19 (fun c13 => ?_) (fun c13 => ?_)
   ·refine w_getS X0 hx hZ hown e0 (host := "") (Or.inl (tw_13 hw)) Via.refl S_st_LATEST (dB at_25) 28 rfl (fun T14 X14 e14 => ?_)
    refine w_astore X14 hx (dB at_28) 30 rfl rfl #[.val (.long t), .second, .val (.long u), .second, .val (.int flag), .val (.int (0 : Int32)), .val (.ref st_LATEST), .unset, .unset, .unset] rfl ?_
    refine w_aload X14 hx (.ref st_LATEST) (dB at_30) 32 rfl rfl rfl ?_
    refine w_lloadN X14 hx t (dB at_32) 33 rfl rfl ?_
    refine w_lloadN X14 hx u (dB at_33) 34 rfl rfl ?_
    refine w_virt X14 hx hZ hown e14 (rm1l l Z a0 hw [] st_LATEST t u st_EARLIEST h0 n0 Z0 S_st_EARLIEST (by exact (Fld.ne F_ordinal_st_LATEST F_ordinal_st_EARLIEST (by decide)))) (tw_3 hw) (tw_4 hw) (notFace_of_selects (args := #[]) (mvT hZ (tw_6 hw))) (tw_6 hw) (tw_5 hw) (tw_1 hw) (tw_7 hw) (by decide) st_LATEST E_st_LATEST (by rw [hml]; rfl) [(.long t), (.long u)] [] (lenOf pd_0 rfl) rfl rfl (by decide) 0 rfl (by decide) (by decide) (by decide) (dB at_34) 37 rfl (fun r15 T15 L15 X15 q15 => ?_)
    obtain ⟨z15, rfl, f15, Nq15, eq15⟩ := q15
    have N15 := Fr.app N0 Nq15
    dsimp only [Option.toList_some, Option.toList_none, List.cons_append, List.nil_append]
    refine w_istore X15 hx (dB at_37) 39 rfl #[.val (.long t), .second, .val (.long u), .second, .val (.int flag), .val (.int (0 : Int32)), .val (.ref st_LATEST), .val (.int z15), .unset, .unset] rfl ?_
    refine w_lloadN X15 hx t (dB at_39) 40 rfl rfl ?_
    refine w_lloadN X15 hx u (dB at_40) 41 rfl rfl ?_
    obtain ⟨v16, e16⟩ : ∃ z : Int32, z = lcmpW t u := ⟨_, rfl⟩
    have n16 : (v16.toInt = -1 ∧ t.toInt < u.toInt) ∨ (v16.toInt = 0 ∧ t.toInt = u.toInt) ∨ (v16.toInt = 1 ∧ u.toInt < t.toInt) := by rw [e16]; exact lcmpC _ _ rfl rfl
    refine w_lcmp X15 hx (dB at_41) 42 rfl e16 ?_
    refine w_if_eq X15 hx v16.toInt rfl (dB at_42) 49 45 (fun c17 => ?_) (fun c17 => ?_)
    ·refine w_iconst X15 hx (dB at_49) 50 rfl (0 : Int32) (by decide) ?_
     refine w_istore X15 hx (dB at_50) 52 rfl #[.val (.long t), .second, .val (.long u), .second, .val (.int flag), .val (.int (0 : Int32)), .val (.ref st_LATEST), .val (.int z15), .val (.int (0 : Int32)), .unset] rfl ?_
     refine w_iload X15 hx (0 : Int32) (dB at_52) 54 rfl rfl ?_
     refine w_if_eq X15 hx 0 (by decide) (dB at_54) 82 57 (fun c18 => ?_) (fun c18 => ?_)
     ·refine w_iload X15 hx (0 : Int32) (dB at_82) 84 rfl rfl ?_
      refine w_if_eq X15 hx 0 (by decide) (dB at_84) 101 87 (fun c19 => ?_) (fun c19 => ?_)
      ·refine w_iconst X15 hx (dB at_101) 102 rfl (0 : Int32) (by decide) ?_
       refine w_istore X15 hx (dB at_102) 104 rfl #[.val (.long t), .second, .val (.long u), .second, .val (.int flag), .val (.int (0 : Int32)), .val (.ref st_LATEST), .val (.int z15), .val (.int (0 : Int32)), .val (.int (0 : Int32))] rfl ?_
       refine w_iload X15 hx z15 (dB at_104) 106 rfl rfl ?_
       refine w_iload X15 hx (0 : Int32) (dB at_106) 108 rfl rfl ?_
       refine w_icmp_ne X15 hx z15.toInt 0 rfl (by decide) (dB at_108) 115 111 (fun c20 => ?_) (fun c20 => ?_)
       ·refine w_iconst X15 hx (dB at_115) 116 rfl (0 : Int32) (by decide) ?_
        refine w_retN X15 hx hlk (t := .boolean) hret (by simp) (dB at_116) (by decide) (by decide) ?_
        rw [eq15]
        exfalso; omega
       ·refine w_iconst X15 hx (dB at_111) 112 rfl (1 : Int32) (by decide) ?_
        refine w_goto X15 hx (dB at_112) 116 ?_
        refine w_retN X15 hx hlk (t := .boolean) hret (by simp) (dB at_116) (by decide) (by decide) ?_
        rw [eq15]
        exact ⟨rfl, N15⟩
      ·exfalso; omega
     ·exfalso; omega
    ·refine w_iconst X15 hx (dB at_45) 46 rfl (1 : Int32) (by decide) ?_
     refine w_goto X15 hx (dB at_46) 50 ?_
     refine w_istore X15 hx (dB at_50) 52 rfl #[.val (.long t), .second, .val (.long u), .second, .val (.int flag), .val (.int (0 : Int32)), .val (.ref st_LATEST), .val (.int z15), .val (.int (1 : Int32)), .unset] rfl ?_
     refine w_iload X15 hx (0 : Int32) (dB at_52) 54 rfl rfl ?_
     refine w_if_eq X15 hx 0 (by decide) (dB at_54) 82 57 (fun c21 => ?_) (fun c21 => ?_)
     ·refine w_iload X15 hx (1 : Int32) (dB at_82) 84 rfl rfl ?_
      refine w_if_eq X15 hx 1 (by decide) (dB at_84) 101 87 (fun c22 => ?_) (fun c22 => ?_)
      ·exfalso; omega
      ·refine w_lloadN X15 hx t (dB at_87) 88 rfl rfl ?_
       refine w_lloadN X15 hx u (dB at_88) 89 rfl rfl ?_
       refine w_callS X15 hx hZ hown eq15 (rm3 l Z a0 hw [] t u h0 n0 Z0 ) (tw_15 hw) (tw_16 hw) (tw_11 hw) (tw_17 hw) (by decide) (by rw [hml]; rfl) [(.long t), (.long u)] [] (lenOf pd_1 rfl) rfl rfl (by decide) 0 rfl (by decide) (by decide) (by decide) (dB at_89) 92 rfl (fun r23 T23 L23 X23 q23 => ?_)
       obtain ⟨z23, rfl, f23, Nq23, eq23⟩ := q23
       have N23 := Fr.app N15 Nq23
       dsimp only [Option.toList_some, Option.toList_none, List.cons_append, List.nil_append]
       refine w_lloadN X23 hx t (dB at_92) 93 rfl rfl ?_
       obtain ⟨v24, e24⟩ : ∃ z : Int32, z = lcmpW z23 t := ⟨_, rfl⟩
       have n24 : (v24.toInt = -1 ∧ z23.toInt < t.toInt) ∨ (v24.toInt = 0 ∧ z23.toInt = t.toInt) ∨ (v24.toInt = 1 ∧ t.toInt < z23.toInt) := by rw [e24]; exact lcmpC _ _ rfl rfl
       refine w_lcmp X23 hx (dB at_93) 94 rfl e24 ?_
       refine w_if_ne X23 hx v24.toInt rfl (dB at_94) 101 97 (fun c25 => ?_) (fun c25 => ?_)
       ·refine w_iconst X23 hx (dB at_101) 102 rfl (0 : Int32) (by decide) ?_
        refine w_istore X23 hx (dB at_102) 104 rfl #[.val (.long t), .second, .val (.long u), .second, .val (.int flag), .val (.int (0 : Int32)), .val (.ref st_LATEST), .val (.int z15), .val (.int (1 : Int32)), .val (.int (0 : Int32))] rfl ?_
        refine w_iload X23 hx z15 (dB at_104) 106 rfl rfl ?_
        refine w_iload X23 hx (0 : Int32) (dB at_106) 108 rfl rfl ?_
        refine w_icmp_ne X23 hx z15.toInt 0 rfl (by decide) (dB at_108) 115 111 (fun c26 => ?_) (fun c26 => ?_)
        ·refine w_iconst X23 hx (dB at_115) 116 rfl (0 : Int32) (by decide) ?_
         refine w_retN X23 hx hlk (t := .boolean) hret (by simp) (dB at_116) (by decide) (by decide) ?_
         rw [eq23]
         exfalso; omega
        ·refine w_iconst X23 hx (dB at_111) 112 rfl (1 : Int32) (by decide) ?_
         refine w_goto X23 hx (dB at_112) 116 ?_
         refine w_retN X23 hx hlk (t := .boolean) hret (by simp) (dB at_116) (by decide) (by decide) ?_
         rw [eq23]
         exact ⟨rfl, N23⟩
       ·refine w_iconst X23 hx (dB at_97) 98 rfl (1 : Int32) (by decide) ?_
        refine w_goto X23 hx (dB at_98) 102 ?_
        refine w_istore X23 hx (dB at_102) 104 rfl #[.val (.long t), .second, .val (.long u), .second, .val (.int flag), .val (.int (0 : Int32)), .val (.ref st_LATEST), .val (.int z15), .val (.int (1 : Int32)), .val (.int (1 : Int32))] rfl ?_
        refine w_iload X23 hx z15 (dB at_104) 106 rfl rfl ?_
        refine w_iload X23 hx (1 : Int32) (dB at_106) 108 rfl rfl ?_
        refine w_icmp_ne X23 hx z15.toInt 1 rfl (by decide) (dB at_108) 115 111 (fun c27 => ?_) (fun c27 => ?_)
        ·refine w_iconst X23 hx (dB at_115) 116 rfl (0 : Int32) (by decide) ?_
         refine w_retN X23 hx hlk (t := .boolean) hret (by simp) (dB at_116) (by decide) (by decide) ?_
         rw [eq23]
         exfalso; omega
        ·refine w_iconst X23 hx (dB at_111) 112 rfl (1 : Int32) (by decide) ?_
         refine w_goto X23 hx (dB at_112) 116 ?_
         refine w_retN X23 hx hlk (t := .boolean) hret (by simp) (dB at_116) (by decide) (by decide) ?_
         rw [eq23]
         exact ⟨rfl, N23⟩
     ·exfalso; omega
   ·exfalso; omega
  ·refine w_iconst X0 hx (dB at_7) 8 rfl (1 : Int32) (by decide) ?_
   refine w_goto X0 hx (dB at_8) 12 ?_
   refine w_istore X0 hx (dB at_12) 14 rfl #[.val (.long t), .second, .val (.long u), .second, .val (.int flag), .val (.int (1 : Int32)), .unset, .unset, .unset, .unset] rfl ?_
   refine w_iload X0 hx (1 : Int32) (dB at_14) 16 rfl rfl ?_
   refine w_if_eq X0 hx 1 (by decide) (dB at_16) 25 19 (fun c28 => ?_) (fun c28 => ?_)
   ·exfalso; omega
   ·refine w_getS X0 hx hZ hown e0 (host := "") (Or.inl (tw_0 hw)) Via.refl S_st_EARLIEST (dB at_19) 22 rfl (fun T29 X29 e29 => ?_)
    refine w_goto X29 hx (dB at_22) 28 ?_
    refine w_astore X29 hx (dB at_28) 30 rfl rfl #[.val (.long t), .second, .val (.long u), .second, .val (.int flag), .val (.int (1 : Int32)), .val (.ref st_EARLIEST), .unset, .unset, .unset] rfl ?_
    refine w_aload X29 hx (.ref st_EARLIEST) (dB at_30) 32 rfl rfl rfl ?_
    refine w_lloadN X29 hx t (dB at_32) 33 rfl rfl ?_
    refine w_lloadN X29 hx u (dB at_33) 34 rfl rfl ?_
    refine w_virt X29 hx hZ hown e29 (rm1e l Z a0 hw [] st_EARLIEST t u h0 n0 Z0 S_st_EARLIEST) (tw_3 hw) (tw_4 hw) (notFace_of_selects (args := #[]) (mvT hZ (tw_6 hw))) (tw_6 hw) (tw_5 hw) (tw_1 hw) (tw_7 hw) (by decide) st_EARLIEST E_st_EARLIEST (by rw [hml]; rfl) [(.long t), (.long u)] [] (lenOf pd_0 rfl) rfl rfl (by decide) 0 rfl (by decide) (by decide) (by decide) (dB at_34) 37 rfl (fun r30 T30 L30 X30 q30 => ?_)
    obtain ⟨z30, rfl, f30, Nq30, eq30⟩ := q30
    have N30 := Fr.app N0 Nq30
    dsimp only [Option.toList_some, Option.toList_none, List.cons_append, List.nil_append]
    refine w_istore X30 hx (dB at_37) 39 rfl #[.val (.long t), .second, .val (.long u), .second, .val (.int flag), .val (.int (1 : Int32)), .val (.ref st_EARLIEST), .val (.int z30), .unset, .unset] rfl ?_
    refine w_lloadN X30 hx t (dB at_39) 40 rfl rfl ?_
    refine w_lloadN X30 hx u (dB at_40) 41 rfl rfl ?_
    obtain ⟨v31, e31⟩ : ∃ z : Int32, z = lcmpW t u := ⟨_, rfl⟩
    have n31 : (v31.toInt = -1 ∧ t.toInt < u.toInt) ∨ (v31.toInt = 0 ∧ t.toInt = u.toInt) ∨ (v31.toInt = 1 ∧ u.toInt < t.toInt) := by rw [e31]; exact lcmpC _ _ rfl rfl
    refine w_lcmp X30 hx (dB at_41) 42 rfl e31 ?_
    refine w_if_eq X30 hx v31.toInt rfl (dB at_42) 49 45 (fun c32 => ?_) (fun c32 => ?_)
    ·refine w_iconst X30 hx (dB at_49) 50 rfl (0 : Int32) (by decide) ?_
     refine w_istore X30 hx (dB at_50) 52 rfl #[.val (.long t), .second, .val (.long u), .second, .val (.int flag), .val (.int (1 : Int32)), .val (.ref st_EARLIEST), .val (.int z30), .val (.int (0 : Int32)), .unset] rfl ?_
     refine w_iload X30 hx (1 : Int32) (dB at_52) 54 rfl rfl ?_
     refine w_if_eq X30 hx 1 (by decide) (dB at_54) 82 57 (fun c33 => ?_) (fun c33 => ?_)
     ·exfalso; omega
     ·refine w_iload X30 hx (0 : Int32) (dB at_57) 59 rfl rfl ?_
      refine w_if_eq X30 hx 0 (by decide) (dB at_59) 76 62 (fun c34 => ?_) (fun c34 => ?_)
      ·refine w_iconst X30 hx (dB at_76) 77 rfl (0 : Int32) (by decide) ?_
       refine w_istore X30 hx (dB at_77) 79 rfl #[.val (.long t), .second, .val (.long u), .second, .val (.int flag), .val (.int (1 : Int32)), .val (.ref st_EARLIEST), .val (.int z30), .val (.int (0 : Int32)), .val (.int (0 : Int32))] rfl ?_
       refine w_goto X30 hx (dB at_79) 104 ?_
       refine w_iload X30 hx z30 (dB at_104) 106 rfl rfl ?_
       refine w_iload X30 hx (0 : Int32) (dB at_106) 108 rfl rfl ?_
       refine w_icmp_ne X30 hx z30.toInt 0 rfl (by decide) (dB at_108) 115 111 (fun c35 => ?_) (fun c35 => ?_)
       ·refine w_iconst X30 hx (dB at_115) 116 rfl (0 : Int32) (by decide) ?_
        refine w_retN X30 hx hlk (t := .boolean) hret (by simp) (dB at_116) (by decide) (by decide) ?_
        rw [eq30]
        exfalso; omega
       ·refine w_iconst X30 hx (dB at_111) 112 rfl (1 : Int32) (by decide) ?_
        refine w_goto X30 hx (dB at_112) 116 ?_
        refine w_retN X30 hx hlk (t := .boolean) hret (by simp) (dB at_116) (by decide) (by decide) ?_
        rw [eq30]
        exact ⟨rfl, N30⟩
      ·exfalso; omega
    ·refine w_iconst X30 hx (dB at_45) 46 rfl (1 : Int32) (by decide) ?_
     refine w_goto X30 hx (dB at_46) 50 ?_
     refine w_istore X30 hx (dB at_50) 52 rfl #[.val (.long t), .second, .val (.long u), .second, .val (.int flag), .val (.int (1 : Int32)), .val (.ref st_EARLIEST), .val (.int z30), .val (.int (1 : Int32)), .unset] rfl ?_
     refine w_iload X30 hx (1 : Int32) (dB at_52) 54 rfl rfl ?_
     refine w_if_eq X30 hx 1 (by decide) (dB at_54) 82 57 (fun c36 => ?_) (fun c36 => ?_)
     ·exfalso; omega
     ·refine w_iload X30 hx (1 : Int32) (dB at_57) 59 rfl rfl ?_
      refine w_if_eq X30 hx 1 (by decide) (dB at_59) 76 62 (fun c37 => ?_) (fun c37 => ?_)
      ·exfalso; omega
      ·refine w_lloadN X30 hx t (dB at_62) 63 rfl rfl ?_
       refine w_lloadN X30 hx u (dB at_63) 64 rfl rfl ?_
       refine w_callS X30 hx hZ hown eq30 (rm2 l Z a0 hw [] t u h0 n0 Z0 ) (tw_9 hw) (tw_10 hw) (tw_11 hw) (tw_12 hw) (by decide) (by rw [hml]; rfl) [(.long t), (.long u)] [] (lenOf pd_1 rfl) rfl rfl (by decide) 0 rfl (by decide) (by decide) (by decide) (dB at_64) 67 rfl (fun r38 T38 L38 X38 q38 => ?_)
       obtain ⟨z38, rfl, f38, Nq38, eq38⟩ := q38
       have N38 := Fr.app N30 Nq38
       dsimp only [Option.toList_some, Option.toList_none, List.cons_append, List.nil_append]
       refine w_lloadN X38 hx t (dB at_67) 68 rfl rfl ?_
       obtain ⟨v39, e39⟩ : ∃ z : Int32, z = lcmpW z38 t := ⟨_, rfl⟩
       have n39 : (v39.toInt = -1 ∧ z38.toInt < t.toInt) ∨ (v39.toInt = 0 ∧ z38.toInt = t.toInt) ∨ (v39.toInt = 1 ∧ t.toInt < z38.toInt) := by rw [e39]; exact lcmpC _ _ rfl rfl
       refine w_lcmp X38 hx (dB at_68) 69 rfl e39 ?_
       refine w_if_ne X38 hx v39.toInt rfl (dB at_69) 76 72 (fun c40 => ?_) (fun c40 => ?_)
       ·refine w_iconst X38 hx (dB at_76) 77 rfl (0 : Int32) (by decide) ?_
        refine w_istore X38 hx (dB at_77) 79 rfl #[.val (.long t), .second, .val (.long u), .second, .val (.int flag), .val (.int (1 : Int32)), .val (.ref st_EARLIEST), .val (.int z30), .val (.int (1 : Int32)), .val (.int (0 : Int32))] rfl ?_
        refine w_goto X38 hx (dB at_79) 104 ?_
        refine w_iload X38 hx z30 (dB at_104) 106 rfl rfl ?_
        refine w_iload X38 hx (0 : Int32) (dB at_106) 108 rfl rfl ?_
        refine w_icmp_ne X38 hx z30.toInt 0 rfl (by decide) (dB at_108) 115 111 (fun c41 => ?_) (fun c41 => ?_)
        ·refine w_iconst X38 hx (dB at_115) 116 rfl (0 : Int32) (by decide) ?_
         refine w_retN X38 hx hlk (t := .boolean) hret (by simp) (dB at_116) (by decide) (by decide) ?_
         rw [eq38]
         exfalso; omega
        ·refine w_iconst X38 hx (dB at_111) 112 rfl (1 : Int32) (by decide) ?_
         refine w_goto X38 hx (dB at_112) 116 ?_
         refine w_retN X38 hx hlk (t := .boolean) hret (by simp) (dB at_116) (by decide) (by decide) ?_
         rw [eq38]
         exact ⟨rfl, N38⟩
       ·refine w_iconst X38 hx (dB at_72) 73 rfl (1 : Int32) (by decide) ?_
        refine w_goto X38 hx (dB at_73) 77 ?_
        refine w_istore X38 hx (dB at_77) 79 rfl #[.val (.long t), .second, .val (.long u), .second, .val (.int flag), .val (.int (1 : Int32)), .val (.ref st_EARLIEST), .val (.int z30), .val (.int (1 : Int32)), .val (.int (1 : Int32))] rfl ?_
        refine w_goto X38 hx (dB at_79) 104 ?_
        refine w_iload X38 hx z30 (dB at_104) 106 rfl rfl ?_
        refine w_iload X38 hx (1 : Int32) (dB at_106) 108 rfl rfl ?_
        refine w_icmp_ne X38 hx z30.toInt 1 rfl (by decide) (dB at_108) 115 111 (fun c42 => ?_) (fun c42 => ?_)
        ·refine w_iconst X38 hx (dB at_115) 116 rfl (0 : Int32) (by decide) ?_
         refine w_retN X38 hx hlk (t := .boolean) hret (by simp) (dB at_116) (by decide) (by decide) ?_
         rw [eq38]
         exfalso; omega
        ·refine w_iconst X38 hx (dB at_111) 112 rfl (1 : Int32) (by decide) ?_
         refine w_goto X38 hx (dB at_112) 116 ?_
         refine w_retN X38 hx hlk (t := .boolean) hret (by simp) (dB at_116) (by decide) (by decide) ?_
         rw [eq38]
         exact ⟨rfl, N38⟩
set_option maxRecDepth 65536 in
set_option maxHeartbeats 40000000 in
theorem comes_1 {Post : Tables → Env → Array Value → State → Outcome → State → Prop} (hpost : ∀ tb e args s v u, (limb_1_1.after args s (.returned v) u = true ∧ limb_1_2.after args s (.returned v) u = true ∧ True) → FrameEnd s (.returned v) u (Jvm.fieldLocs frame_1_writes args s ++ Jvm.arrayLocs frame_1_arrays args s ++ Jvm.staticLocs frame_1_statics s) 0 0 → Post tb e args s (.returned v) u) :
    ArmFor flags0 classFile x code maxLocals ret World_1 tables_1 room_1 Calls_1 rest_1 Pre_1 Post := by
  intro l hfl _ _ p e ha hc hk s m args below hf hA hF happ hP
  obtain ⟨hcalls, hrest, hpre⟩ := hP
  obtain ⟨-, -, -, hnamed, -, -, -, hat⟩ := (Spec.applies_iff hf).mp happ
  obtain ⟨hg, hn⟩ := and_e (Cond.before_iff.mp (show (Jvm.Cond.and given_1 narrow_1).before args s = true from hpre))
  obtain ⟨gg1, gg2⟩ := and_e hg
  obtain ⟨gg3, gg4⟩ := and_e gg2
  obtain ⟨gg5, gg6⟩ := and_e gg4
  obtain ⟨w0, w1, w2, rfl⟩ : ∃ w0 w1 w2 : Value, args = #[w0, w1, w2] := by
    have hs : args.size = 3 := by simpa [Cond.value, given_1] using gg1
    obtain ⟨L⟩ := args
    match L, hs with
    | [w0, w1, w2], _ => exact ⟨w0, w1, w2, rfl⟩
  have hw := fun d (hd : d ∈ tables_1) => atoms_spec (ws := Jvm.Cond.code x code maxLocals ret :: tables_1) hat d (List.mem_cons_of_mem _ hd)
  have hfit : Fit s := fun {y c} hc i hi => by
    obtain ⟨ha, rfl⟩ := Array.getElem?_eq_some_iff.mp hc
    have q := List.all_eq_true.mp ((Array.all_eq_true_iff_forall_mem.mp hF) _ (Array.getElem_mem ha)) i (List.mem_range.mpr hi)
    simpa [Array.getElem?_eq_getElem hi] using q
  obtain ⟨i0, ei0⟩ := isL_v gg3
  obtain rfl : w0 = (.long i0) := Option.some.inj ei0
  obtain ⟨i1, ei1⟩ := isL_v gg5
  obtain rfl : w1 = (.long i1) := Option.some.inj ei1
  obtain ⟨i2, ei2⟩ := is_v gg6
  obtain rfl : w2 = (.int i2) := Option.some.inj ei2
  obtain ⟨ns1, ns2⟩ := and_e hn
  obtain ⟨ns3, ns4⟩ := and_e ns2
  obtain ⟨ns5, ns6⟩ := and_e ns4
  obtain ⟨st_EARLIEST, ev_st_EARLIEST⟩ := exa_v ns1
  have S_st_EARLIEST : Sta s s.heap "com/example/urd/urd/ctl/ForwardSearch$Timing" "EARLIEST" "Lcom/example/urd/urd/ctl/ForwardSearch$Timing;" (.ref st_EARLIEST) := Sta.start ev_st_EARLIEST (Or.inr ⟨(tw_1 hw), (tw_2 hw)⟩)
  have E_st_EARLIEST : Exa s s.heap st_EARLIEST "com/example/urd/urd/ctl/ForwardSearch$Timing" := Exa.start ev_st_EARLIEST ns1
  obtain ⟨st_LATEST, ev_st_LATEST⟩ := exa_v ns3
  have S_st_LATEST : Sta s s.heap "com/example/urd/urd/ctl/ForwardSearch$Timing" "LATEST" "Lcom/example/urd/urd/ctl/ForwardSearch$Timing;" (.ref st_LATEST) := Sta.start ev_st_LATEST (Or.inr ⟨(tw_1 hw), (tw_14 hw)⟩)
  have E_st_LATEST : Exa s s.heap st_LATEST "com/example/urd/urd/ctl/ForwardSearch$Timing" := Exa.start ev_st_LATEST ns3
  have F_ordinal_st_LATEST : Fld s s.heap st_LATEST cN_3 "ordinal" "I" (.int (1 : Int32)) := Fld.start ((fld_at ev_st_LATEST).symm.trans (eqInt_v ns5))
  have F_ordinal_st_EARLIEST : Fld s s.heap st_EARLIEST cN_3 "ordinal" "I" (.int (0 : Int32)) := Fld.start ((fld_at ev_st_EARLIEST).symm.trans (eqInt_v ns6))
  obtain ⟨n, o, h1, h2, h3, _, L, rfl, ⟨rfl, N⟩, hq⟩ := rm0 l s _ hw tables_1 i0 i1 i2 st_EARLIEST st_LATEST s.heap s.heap.size (Nat.le_refl _) S_st_EARLIEST E_st_EARLIEST S_st_LATEST E_st_LATEST F_ordinal_st_LATEST F_ordinal_st_EARLIEST p e ha hc hk s m _ below hf ((Spec.applies_iff_loose hf).mp happ).1 ⟨rfl, State.Warmed39.refl s, rfl⟩ trivial
  refine ⟨n, _, h1, h2, h3, hpost _ _ _ _ _ _ ⟨Cond.after_iff.mpr rfl, Cond.after_iff.mpr (eq_i res_at (Term.int_eval (1)) rfl), trivial⟩ ⟨hq.1, hq.2.1, (hq.2.2.sift fun y hy => Or.inr (N y hy)).mono (by decide) (by decide)⟩⟩
theorem main_1_1 : Claimed_1_1 := comes_1 fun _ _ _ _ _ _ h hF => ⟨h.1, hF⟩
theorem main_1_2 : Claimed_1_2 := comes_1 fun _ _ _ _ _ _ h hF => ⟨h.2.1, hF⟩
end Jvm.Pilot.@@N@@
namespace Jvm.Pilot.@@N@@
open Jvm Jvm.ClassFile Sem Op Lib Jvm.Free Jvm.Stand Jvm.Pilot.@@N@@.Jvm.D
/-! MADE BY PROGRAM (witnessworld.py) out of the Statement's table words and the real class files: 13 classes; the members and pool entries that the words name. The judged class is class 1, her method 1. -/
namespace start1
open Jvm.ClassFile
def u (s : String) : CpInfo := .utf8 (stringToUtf16 s)
/-- a pool by its gaps: so many unusable entries, then the entry; so many at the end -/
def gap : Nat → List CpInfo → List CpInfo
  | 0, r => r
  | n + 1, r => .unusable :: gap n r
def poolList (es : List (Nat × CpInfo)) (last : Nat) : List CpInfo := es.foldr (fun e r => gap e.1 (e.2 :: r)) (gap last [])
def pool (es : List (Nat × CpInfo)) (last : Nat) : Array CpInfo := ⟨poolList es last⟩
def fileOf (pool : Array CpInfo) (this : Nat) (attrs : Array Attribute := #[]) (ms : Array MethodInfo := #[]) (fl : Nat := 33) (sup : Nat := 0) (ifs : Array Nat := #[]) (fds : Array FieldInfo := #[]) : ClassFile where
  minorVersion := 0
  majorVersion := 65
  constantPool := pool
  accessFlags := fl
  thisClass := this
  superClass := sup
  interfaces := ifs
  fields := fds
  methods := ms
  attributes := attrs
def plain (name : String) (sup : Option ClassId) : Class where
  name := name
  kind := .ordinary
  loader := none
  accessFlags := 33
  super := sup
  interfaces := #[]
  cf := none
  fields := #[]
  methods := #[]
  instanceTypes := #[]
  staticTypes := #[]
  resolved := #[]
  callSites := []
  init := .initialized
  statics := none
  mirror := none

def pool0 : Array CpInfo := pool [(5, u "<init>"), (0, u "()V"), (1, .class_ 10), (1, u "java/lang/Object")] 113

def k0m0 : Method := { name := "<init>", desc := "()V", sig := { parameters := [], returnType := none }, accessFlags := 1, code := none }
/-- java/lang/Object -/
def k0 : Class := { plain "java/lang/Object" none with
  accessFlags := 33
  interfaces := #[]
  cf := some (fileOf pool0 8 #[] #[{ accessFlags := 1, nameIndex := 5, descriptorIndex := 6, attributes := #[] }] 33 0 #[] #[])
  fields := #[]
  methods := #[k0m0]
  instanceTypes := #[]
  staticTypes := #[]
  resolved := Array.replicate 124 none
  statics := none }

def pool1 : Array CpInfo := pool [(2, .class_ 4), (1, u "java/lang/Object"), (0, u "<init>"), (0, u "()V"), (0, .fieldref 8 9), (0, .class_ 10), (0, .nameAndType 11 12), (0, u "com/example/urd/urd/ctl/ForwardSearch$Timing"), (0, u "EARLIEST"), (0, u "Lcom/example/urd/urd/ctl/ForwardSearch$Timing;"), (0, .fieldref 8 14), (0, .nameAndType 15 12), (0, u "LATEST"), (0, .methodref 8 17), (0, .nameAndType 18 19), (0, u "isBetter"), (0, u "(JJ)Z"), (0, .methodref 21 22), (0, .class_ 23), (0, .nameAndType 24 25), (0, u "java/lang/Math"), (0, u "min"), (0, u "(JJ)J"), (0, .methodref 21 27), (0, .nameAndType 28 25), (0, u "max"), (0, .class_ 30), (0, u "com/example/urd/urd/ctl/TimingIsBetterPinLaw"), (2, u "law"), (0, u "(JJI)Z")] 7

def k1m0 : Method := { name := "<init>", desc := "()V", sig := { parameters := [], returnType := none }, accessFlags := 1, code := none }
def k1c1 : Code := { maxStack := 5, maxLocals := 10, code := code, exceptionTable := #[], attributes := #[] }
def k1m1 : Method := { name := "law", desc := "(JJI)Z", sig := { parameters := [.long, .long, .int], returnType := some .boolean }, accessFlags := 9, code := some k1c1 }
/-- com/example/urd/urd/ctl/TimingIsBetterPinLaw -/
def k1 : Class := { plain "com/example/urd/urd/ctl/TimingIsBetterPinLaw" (some 0) with
  accessFlags := 49
  interfaces := #[]
  cf := some (fileOf pool1 29 #[] #[{ accessFlags := 1, nameIndex := 5, descriptorIndex := 6, attributes := #[] }, { accessFlags := 9, nameIndex := 33, descriptorIndex := 34, attributes := #[] }] 49 2 #[] #[])
  fields := #[]
  methods := #[k1m0, k1m1]
  instanceTypes := #[]
  staticTypes := #[]
  resolved := Array.replicate 42 none
  statics := none }

def pool2 : Array CpInfo := pool [(1, .class_ 2), (0, u "java/lang/constant/Constable"), (0, .class_ 4), (0, u "java/lang/Object")] 6

/-- java/lang/constant/Constable -/
def k2 : Class := { plain "java/lang/constant/Constable" (some 0) with
  accessFlags := 1537
  interfaces := #[]
  cf := some (fileOf pool2 1 #[] #[] 1537 3 #[] #[])
  fields := #[]
  methods := #[]
  instanceTypes := #[]
  staticTypes := #[]
  resolved := Array.replicate 11 none
  statics := none }

def pool3 : Array CpInfo := pool [(1, .class_ 2), (0, u "java/lang/Comparable"), (0, .class_ 4), (0, u "java/lang/Object")] 7

/-- java/lang/Comparable -/
def k3 : Class := { plain "java/lang/Comparable" (some 0) with
  accessFlags := 1537
  interfaces := #[]
  cf := some (fileOf pool3 1 #[] #[] 1537 3 #[] #[])
  fields := #[]
  methods := #[]
  instanceTypes := #[]
  staticTypes := #[]
  resolved := Array.replicate 12 none
  statics := none }

def pool4 : Array CpInfo := pool [(1, .class_ 2), (0, u "java/io/Serializable"), (0, .class_ 4), (0, u "java/lang/Object")] 2

/-- java/io/Serializable -/
def k4 : Class := { plain "java/io/Serializable" (some 0) with
  accessFlags := 1537
  interfaces := #[]
  cf := some (fileOf pool4 1 #[] #[] 1537 3 #[] #[])
  fields := #[]
  methods := #[]
  instanceTypes := #[]
  staticTypes := #[]
  resolved := Array.replicate 7 none
  statics := none }

def pool5 : Array CpInfo := pool [(2, .class_ 4), (1, u "java/lang/Enum"), (0, u "name"), (0, u "Ljava/lang/String;"), (2, u "ordinal"), (0, u "I"), (1, .class_ 14), (1, u "java/lang/Object"), (4, u "hash"), (86, .class_ 108), (1, u "java/lang/Enum$EnumDesc"), (2, .class_ 112), (0, u "java/lang/constant/Constable"), (0, .class_ 114), (0, u "java/lang/Comparable"), (0, .class_ 116), (0, u "java/io/Serializable")] 87

/-- java/lang/Enum -/
def k5 : Class := { plain "java/lang/Enum" (some 0) with
  accessFlags := 1057
  interfaces := #[2, 3, 4]
  cf := some (fileOf pool5 2 #[.nestMembers #[106]] #[] 1057 12 #[111, 113, 115] #[{ accessFlags := 18, nameIndex := 5, descriptorIndex := 6, attributes := #[] }, { accessFlags := 18, nameIndex := 9, descriptorIndex := 10, attributes := #[] }, { accessFlags := 2, nameIndex := 19, descriptorIndex := 10, attributes := #[] }])
  fields := #[{ name := "name", type := (.object "java/lang/String"), accessFlags := 18, slot := 0, constantValue := 0 }, { name := "ordinal", type := .int, accessFlags := 18, slot := 1, constantValue := 0 }, { name := "hash", type := .int, accessFlags := 2, slot := 2, constantValue := 0 }]
  methods := #[]
  instanceTypes := #[(.object "java/lang/String"), .int, .int]
  staticTypes := #[]
  resolved := Array.replicate 204 none
  statics := none }

def pool6 : Array CpInfo := pool [(1, .class_ 2), (0, u "com/example/urd/urd/ctl/ForwardSearch$Timing"), (0, .fieldref 1 4), (0, .nameAndType 5 6), (0, u "EARLIEST"), (0, u "Lcom/example/urd/urd/ctl/ForwardSearch$Timing;"), (2, u "LATEST"), (2, u "$VALUES"), (0, u "[Lcom/example/urd/urd/ctl/ForwardSearch$Timing;"), (6, .class_ 22), (1, u "java/lang/Enum"), (32, u "isBetter"), (0, u "(JJ)Z"), (5, .class_ 63), (0, u "com/example/urd/urd/ctl/ForwardSearch")] 2

def k6c0 : Code := { maxStack := 4, maxLocals := 5, code := prog_32_method_5_code, exceptionTable := #[], attributes := #[] }
def k6m0 : Method := { name := "isBetter", desc := "(JJ)Z", sig := { parameters := [.long, .long], returnType := some .boolean }, accessFlags := 0, code := some k6c0 }
/-- com/example/urd/urd/ctl/ForwardSearch$Timing -/
def k6 : Class := { plain "com/example/urd/urd/ctl/ForwardSearch$Timing" (some 5) with
  accessFlags := 16432
  interfaces := #[]
  cf := some (fileOf pool6 1 #[.nestHost 62] #[{ accessFlags := 0, nameIndex := 55, descriptorIndex := 56, attributes := #[] }] 16432 20 #[] #[{ accessFlags := 16409, nameIndex := 5, descriptorIndex := 6, attributes := #[] }, { accessFlags := 16409, nameIndex := 9, descriptorIndex := 6, attributes := #[] }, { accessFlags := 4122, nameIndex := 12, descriptorIndex := 13, attributes := #[] }])
  fields := #[{ name := "EARLIEST", type := (.object "com/example/urd/urd/ctl/ForwardSearch$Timing"), accessFlags := 16409, slot := 0, constantValue := 0 }, { name := "LATEST", type := (.object "com/example/urd/urd/ctl/ForwardSearch$Timing"), accessFlags := 16409, slot := 1, constantValue := 0 }, { name := "$VALUES", type := (.array (.object "com/example/urd/urd/ctl/ForwardSearch$Timing")), accessFlags := 4122, slot := 2, constantValue := 0 }]
  methods := #[k6m0]
  instanceTypes := #[(.object "java/lang/String"), .int, .int]
  staticTypes := #[(.object "com/example/urd/urd/ctl/ForwardSearch$Timing"), (.object "com/example/urd/urd/ctl/ForwardSearch$Timing"), (.array (.object "com/example/urd/urd/ctl/ForwardSearch$Timing"))]
  resolved := Array.replicate 66 none
  statics := some 0 }

def pool7 : Array CpInfo := pool [(1, .class_ 2), (0, u "java/lang/Math"), (1, .class_ 6), (1, u "java/lang/Object"), (0, u "<init>"), (0, u "()V"), (89, .class_ 100), (1, u "java/lang/Math$RandomNumberGeneratorHolder"), (20, u "(JJ)J"), (50, u "negativeZeroFloatBits"), (0, u "J"), (2, u "negativeZeroDoubleBits"), (21, u "max"), (2, u "min"), (43, u "$assertionsDisabled"), (0, u "Z"), (91, u "twoToTheDoubleScaleDown"), (0, u "D"), (4, u "twoToTheDoubleScaleUp"), (9, u "E"), (3, u "PI"), (2, u "TAU"), (2, u "DEGREES_TO_RADIANS"), (0, u "RADIANS_TO_DEGREES")] 94

def k7m0 : Method := { name := "<init>", desc := "()V", sig := { parameters := [], returnType := none }, accessFlags := 2, code := none }
def k7c1 : Code := { maxStack := 4, maxLocals := 4, code := jdk_29_method_66_code, exceptionTable := #[], attributes := #[] }
def k7m1 : Method := { name := "max", desc := "(JJ)J", sig := { parameters := [.long, .long], returnType := some .long }, accessFlags := 9, code := some k7c1 }
def k7c2 : Code := { maxStack := 4, maxLocals := 4, code := jdk_29_method_70_code, exceptionTable := #[], attributes := #[] }
def k7m2 : Method := { name := "min", desc := "(JJ)J", sig := { parameters := [.long, .long], returnType := some .long }, accessFlags := 9, code := some k7c2 }
/-- java/lang/Math -/
def k7 : Class := { plain "java/lang/Math" (some 0) with
  accessFlags := 49
  interfaces := #[]
  cf := some (fileOf pool7 1 #[.nestMembers #[98]] #[{ accessFlags := 2, nameIndex := 7, descriptorIndex := 8, attributes := #[] }, { accessFlags := 9, nameIndex := 198, descriptorIndex := 121, attributes := #[] }, { accessFlags := 9, nameIndex := 201, descriptorIndex := 121, attributes := #[] }] 49 4 #[] #[{ accessFlags := 25, nameIndex := 354, descriptorIndex := 339, attributes := #[] }, { accessFlags := 25, nameIndex := 358, descriptorIndex := 339, attributes := #[] }, { accessFlags := 25, nameIndex := 361, descriptorIndex := 339, attributes := #[] }, { accessFlags := 26, nameIndex := 364, descriptorIndex := 339, attributes := #[] }, { accessFlags := 26, nameIndex := 365, descriptorIndex := 339, attributes := #[] }, { accessFlags := 26, nameIndex := 172, descriptorIndex := 173, attributes := #[] }, { accessFlags := 26, nameIndex := 176, descriptorIndex := 173, attributes := #[] }, { accessFlags := 8, nameIndex := 344, descriptorIndex := 339, attributes := #[] }, { accessFlags := 8, nameIndex := 338, descriptorIndex := 339, attributes := #[] }, { accessFlags := 4120, nameIndex := 245, descriptorIndex := 246, attributes := #[] }])
  fields := #[{ name := "E", type := .double, accessFlags := 25, slot := 0, constantValue := 0 }, { name := "PI", type := .double, accessFlags := 25, slot := 1, constantValue := 0 }, { name := "TAU", type := .double, accessFlags := 25, slot := 2, constantValue := 0 }, { name := "DEGREES_TO_RADIANS", type := .double, accessFlags := 26, slot := 3, constantValue := 0 }, { name := "RADIANS_TO_DEGREES", type := .double, accessFlags := 26, slot := 4, constantValue := 0 }, { name := "negativeZeroFloatBits", type := .long, accessFlags := 26, slot := 5, constantValue := 0 }, { name := "negativeZeroDoubleBits", type := .long, accessFlags := 26, slot := 6, constantValue := 0 }, { name := "twoToTheDoubleScaleUp", type := .double, accessFlags := 8, slot := 7, constantValue := 0 }, { name := "twoToTheDoubleScaleDown", type := .double, accessFlags := 8, slot := 8, constantValue := 0 }, { name := "$assertionsDisabled", type := .boolean, accessFlags := 4120, slot := 9, constantValue := 0 }]
  methods := #[k7m0, k7m1, k7m2]
  instanceTypes := #[]
  staticTypes := #[.double, .double, .double, .double, .double, .long, .long, .double, .double, .boolean]
  resolved := Array.replicate 460 none
  statics := none }

def pool8 : Array CpInfo := pool [(1, u "java/lang/Cloneable"), (0, .class_ 1), (0, u "java/lang/Object"), (0, .class_ 3)] 3

/-- java/lang/Cloneable -/
def k8 : Class := { plain "java/lang/Cloneable" (some 0) with
  accessFlags := 1537
  interfaces := #[]
  cf := some (fileOf pool8 2 #[] #[] 1537 4 #[] #[])
  fields := #[]
  methods := #[]
  instanceTypes := #[]
  staticTypes := #[]
  resolved := Array.replicate 8 none
  statics := none }

/-- the primitive byte -/
def k9 : Class := { plain "byte" none with kind := .primitive 'B', accessFlags := 0x411 }
/-- [B -/
def k10 : Class := { plain "[B" (some 0) with kind := .array 9 .byte, interfaces := #[8, 4], accessFlags := 1041 }

/-- the primitive int -/
def k11 : Class := { plain "int" none with kind := .primitive 'I', accessFlags := 0x411 }
/-- [I -/
def k12 : Class := { plain "[I" (some 0) with kind := .array 11 .int, interfaces := #[8, 4], accessFlags := 1041 }

def heap : Heap := #[{ cls := 6, slots := #[.ref 1, .ref 2, .null], vm := .statics 6 },
  { cls := 6, slots := #[.null, .int 0, .int 0], vm := .none },
  { cls := 6, slots := #[.null, .int 1, .int 0], vm := .none }]
def classes : Array Class := #[k0, k1, k2, k3, k4, k5, k6, k7, k8, k9, k10, k11, k12]
def interned : List (Array UInt16 × Addr) := []
def slotsUsed : Nat := 9
def theMethod : MethodId := ⟨1, 1⟩
def args0 : Array Value := #[.long 5, .long 7, .int 0]
def aboutOver (below : List Frame) : State where
  vm := { classes := classes, interned := interned.toArray }
  heap := heap
  slotsUsed := slotsUsed
  threads := #[{ frames := .invoking theMethod args0 :: below }]
def below0 : List Frame := [.native { method := ⟨0, 0⟩, args := #[] }]
def about1 : State := aboutOver below0
def p0 : Program := .bare "" "" ""
def e0 : Env := launch0.env 0 0 0
theorem w_frames : about1.frames = Frame.invoking theMethod args0 :: below0 := rfl
set_option maxRecDepth 65536 in
theorem w_args : argsFit about1.vm theMethod args0 = true := by decide +kernel
set_option maxRecDepth 65536 in
theorem w_heap : heapFits about1 = true := by decide +kernel
set_option maxRecDepth 65536 in
theorem w_runnable : about1.curStatus? = some .runnable := by decide +kernel
set_option maxRecDepth 65536 in
theorem w_alone : about1.alone = true := by decide +kernel
set_option maxRecDepth 65536 in
theorem w_named : about1.methodNamed? x = some theMethod := by decide +kernel
set_option maxRecDepth 65536 in
theorem w_hears : about1.hears theMethod below0 = true := by decide +kernel
set_option maxRecDepth 65536 in
theorem w_ripe : about1.ripe theMethod args0 below0 = true := by decide +kernel
theorem w_running : about1.status = .running := rfl
set_option maxRecDepth 65536 in
theorem w_room : about1.hasRoom e0.platform room_1 = true :=
  launch0.hasRoom_least _ room_1 (by decide +kernel) (by decide +kernel) (by decide +kernel) (by decide +kernel) (by decide +kernel) (by decide +kernel)
theorem allAtoms_all (ts : List Jvm.Cond) (a : Array Jvm.Value) (st : Jvm.State) : (allAtoms ts).before a st = ts.all (fun c => c.before a st) := by
  induction ts with
  | nil => rfl
  | cons c t ih =>
    show (Jvm.Cond.and c (allAtoms t)).before a st = _
    rw [Jvm.Cond.before_and, ih, List.all_cons]
def words1 : List Jvm.Cond := Jvm.Cond.code x code maxLocals ret :: tables_1
/-- a 'code' word, met by the world's own term for the bytes: nothing is compared byte by byte -/
theorem code_word {y : MethodName} {bytes : ByteArray} {mx : Nat} {rt : Option FieldType} {a : Array Value} {s : State} {m : MethodId} {meth : Method} {c : Code} (h1 : s.methodNamed? y = some m) (h2 : s.vm.method? m = some meth) (h3 : meth.code = some c) (h4 : c.code = bytes)
    (h5 : (c.maxLocals == mx && c.exceptionTable.isEmpty && decide (c.maxStack ≤ mostOperands) && decide (meth.sig.returnType = rt) && !meth.locks && decide (parseMethodDescriptor y.desc = some meth.sig)) = true) : (Jvm.Cond.code y bytes mx rt).before a s = true := by
  simp only [Bool.and_eq_true, beq_iff_eq, Bool.not_eq_true', decide_eq_true_eq] at h5
  obtain ⟨⟨⟨⟨⟨g1, g2⟩, g3⟩, g4⟩, g5⟩, g6⟩ := h5
  simp [Cond.before, Cond.holds, Cond.value, h1, h2, h3, h4, g1, g2, g3, g4, g5, g6]
def isCode : Jvm.Cond → Bool
  | .code _ _ _ _ => true
  | _ => false
theorem all_split {L : List Jvm.Cond} {P : Jvm.Cond → Bool} (h1 : L.all (fun c => isCode c || P c) = true) (h2 : ∀ c ∈ L.filter isCode, P c = true) : L.all P = true := by
  refine List.all_eq_true.mpr fun c hc => ?_
  have h := List.all_eq_true.mp h1 c hc
  rcases Bool.eq_false_or_eq_true (isCode c) with hi | hi
  · exact h2 c (List.mem_filter.mpr ⟨hc, hi⟩)
  · simpa [hi] using h
set_option maxRecDepth 65536 in
theorem w_c0 : (Jvm.Cond.code x code maxLocals ret).before args0 about1 = true := code_word (m := ⟨1, 1⟩) (meth := k1m1) (c := k1c1) (by decide +kernel) rfl rfl rfl (by decide +kernel)
set_option maxRecDepth 65536 in
theorem w_c1 : (Jvm.Cond.code ({ cls := "com/example/urd/urd/ctl/ForwardSearch$Timing", name := "isBetter", desc := "(JJ)Z" } : Jvm.MethodName) prog_32_method_5_code (5 : Nat) (Option.some Jvm.ClassFile.FieldType.boolean)).before args0 about1 = true := code_word (m := ⟨6, 0⟩) (meth := k6m0) (c := k6c0) (by decide +kernel) rfl rfl rfl (by decide +kernel)
set_option maxRecDepth 65536 in
theorem w_c2 : (Jvm.Cond.code ({ cls := "java/lang/Math", name := "min", desc := "(JJ)J" } : Jvm.MethodName) jdk_29_method_70_code (4 : Nat) (Option.some Jvm.ClassFile.FieldType.long)).before args0 about1 = true := code_word (m := ⟨7, 2⟩) (meth := k7m2) (c := k7c2) (by decide +kernel) rfl rfl rfl (by decide +kernel)
set_option maxRecDepth 65536 in
theorem w_c3 : (Jvm.Cond.code ({ cls := "java/lang/Math", name := "max", desc := "(JJ)J" } : Jvm.MethodName) jdk_29_method_66_code (4 : Nat) (Option.some Jvm.ClassFile.FieldType.long)).before args0 about1 = true := code_word (m := ⟨7, 1⟩) (meth := k7m1) (c := k7c1) (by decide +kernel) rfl rfl rfl (by decide +kernel)
def codes1 : List Jvm.Cond := [Jvm.Cond.code x code maxLocals ret, Jvm.Cond.code ({ cls := "com/example/urd/urd/ctl/ForwardSearch$Timing", name := "isBetter", desc := "(JJ)Z" } : Jvm.MethodName) prog_32_method_5_code (5 : Nat) (Option.some Jvm.ClassFile.FieldType.boolean), Jvm.Cond.code ({ cls := "java/lang/Math", name := "min", desc := "(JJ)J" } : Jvm.MethodName) jdk_29_method_70_code (4 : Nat) (Option.some Jvm.ClassFile.FieldType.long), Jvm.Cond.code ({ cls := "java/lang/Math", name := "max", desc := "(JJ)J" } : Jvm.MethodName) jdk_29_method_66_code (4 : Nat) (Option.some Jvm.ClassFile.FieldType.long)]
set_option maxRecDepth 65536 in
theorem codes_eq : words1.filter isCode = codes1 := rfl
theorem w_codes : ∀ c ∈ words1.filter isCode, c.before args0 about1 = true := by
  rw [codes_eq]
  intro c hc
  simp only [codes1, List.mem_cons, List.not_mem_nil, or_false] at hc
  rcases hc with rfl | rfl | rfl | rfl
  · exact w_c0
  · exact w_c1
  · exact w_c2
  · exact w_c3
set_option maxRecDepth 65536 in
theorem w_t1 : words1.all (fun c => isCode c || c.before args0 about1) = true := by decide +kernel
theorem w_tables : (allAtoms (Jvm.Cond.code x code maxLocals ret :: tables_1)).before args0 about1 = true := by
  rw [allAtoms_all]
  show words1.all (fun c => c.before args0 about1) = true
  refine all_split ?_ w_codes
  rw [w_t1]
set_option maxRecDepth 65536 in
theorem w_case : (Jvm.Cond.and given_1 narrow_1).before args0 about1 = true := by decide +kernel
theorem w_applies : (headSpec (Jvm.Cond.code x code maxLocals ret :: tables_1) room_1).applies x e0.platform about1 = true :=
  (Spec.applies_iff w_frames).mpr ⟨w_running, w_runnable, w_alone, w_named, w_hears, w_ripe, w_room, w_tables⟩
theorem atStart : AtStart classFile x code maxLocals ret World_1 tables_1 room_1 Calls_1 rest_1 Pre_1 launch0 p0 e0 about1 theMethod args0 below0 :=
  ⟨lists_1, trivial, launch0.admits_env _ _ _, launch0.least_env, fairChoices_fair.cas, fairChoices_fair.clock, w_frames, w_args, w_heap, w_applies, trivial, trivial, w_case⟩
end start1
theorem witness_1 : WitnessClaimed_1 := ⟨start1.p0, start1.e0, start1.about1, start1.theMethod, start1.args0, start1.below0, start1.atStart⟩
end Jvm.Pilot.@@N@@
