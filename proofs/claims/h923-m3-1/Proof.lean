import JvmDerived
import JvmDerived.Pilot.@@N@@Statement
import JvmDerived.Pilot.@@N@@Code
set_option linter.unusedVariables false
set_option linter.unusedSimpArgs false
namespace Jvm.Own
open Sem ClassFile Op Lib Jvm.Stand Jvm.Free Jvm.LawKit Jvm.RoadKit
/-- from here the run goes on to a return that the contract allows -/
def Wk (p : Program) (e : Env) (below : List Frame) (F : Outcome → State → Prop) (T : State) (g : JFrame) : Prop :=
  ∃ s₂ o, Steps p.tables e below (T.setTop g) s₂ ∧ s₂.status = .running ∧ Ended s₂ below o ∧ F o s₂
abbrev FN (s : State) (Q : Option Value → Heap → List Loc → Prop) (kc ks : Nat) : Outcome → State → Prop := fun o s₂ => ∃ v L, o = .returned v ∧ Q v s₂.heap L ∧ FrameEnd s o s₂ L kc ks
section Walk
variable {p : Program} {l : Launch} {e : Env} {R : Room} {s : State} {m : MethodId} {args : Array Value} {below : List Frame} {meth : Method} {c : Code} {T : State} {locs : List Loc} {cells slots : Nat} {Q : Option Value → Heap → List Loc → Prop} {Fe : Outcome → State → Prop} {kc ks pc : Nat} {Ls : Array Slot} {S : List Value} {Z : State} {a0 : Array Value} {h : Heap}
theorem Wk.step {T' : State} {g g' : JFrame} (h : Wk p e below Fe T' g') (st : ∀ t, Steps p.tables e below (T'.setTop g') t → Steps p.tables e below (T.setTop g) t) : Wk p e below Fe T g := by
  obtain ⟨s₂, o, h1, h2⟩ := h
  exact ⟨s₂, o, st _ h1, h2⟩
theorem Wk.come {T' : State} {g g' : JFrame} (h : Wk p e below Fe T' g') (st : Steps p.tables e below (T.setTop g) (T'.setTop g')) : Wk p e below Fe T g := h.step fun _ k => st.trans k
theorem w_iload (X : Stand p l e R s m args below meth c T locs cells slots) (hx : p.tables.exec = Jvm.exec) {k : Nat} (v : Int32) (hd : decode c.code pc = .ok (.iload k, 2)) (pc' : Nat) (hp : pc + 2 = pc') (hl : Ls[k]? = some (.val (.int v))) (h : Wk p e below Fe T (mkF m pc' Ls (.int v :: S))) : Wk p e below Fe T (mkF m pc Ls S) := by
  subst hp; exact h.step fun _ k => XS.iload X.here hx rfl hd hl k
theorem w_iloadN (X : Stand p l e R s m args below meth c T locs cells slots) (hx : p.tables.exec = Jvm.exec) {k : Fin 4} (v : Int32) (hd : decode c.code pc = .ok (.iload_n k, 1)) (pc' : Nat) (hp : pc + 1 = pc') (hl : Ls[k.val]? = some (.val (.int v))) (h : Wk p e below Fe T (mkF m pc' Ls (.int v :: S))) : Wk p e below Fe T (mkF m pc Ls S) := by
  subst hp; exact h.step fun _ k => XS.iloadN X.here hx rfl hd hl k
theorem w_lload (X : Stand p l e R s m args below meth c T locs cells slots) (hx : p.tables.exec = Jvm.exec) {k : Nat} (v : Int64) (hd : decode c.code pc = .ok (.lload k, 2)) (pc' : Nat) (hp : pc + 2 = pc') (hl : Ls[k]? = some (.val (.long v))) (h : Wk p e below Fe T (mkF m pc' Ls (.long v :: S))) : Wk p e below Fe T (mkF m pc Ls S) := by
  subst hp; exact h.step fun _ k => XS.lload X.here hx rfl hd hl k
theorem w_lloadN (X : Stand p l e R s m args below meth c T locs cells slots) (hx : p.tables.exec = Jvm.exec) {k : Fin 4} (v : Int64) (hd : decode c.code pc = .ok (.lload_n k, 1)) (pc' : Nat) (hp : pc + 1 = pc') (hl : Ls[k.val]? = some (.val (.long v))) (h : Wk p e below Fe T (mkF m pc' Ls (.long v :: S))) : Wk p e below Fe T (mkF m pc Ls S) := by
  subst hp; exact h.step fun _ k => XS.lloadN X.here hx rfl hd hl k
theorem w_aload (X : Stand p l e R s m args below meth c T locs cells slots) (hx : p.tables.exec = Jvm.exec) {k : Nat} (v : Value) (hd : decode c.code pc = .ok (.aload k, 2)) (pc' : Nat) (hp : pc + 2 = pc') (hl : Ls[k]? = some (.val v)) (hv : v.isRef = true) (h : Wk p e below Fe T (mkF m pc' Ls (v :: S))) : Wk p e below Fe T (mkF m pc Ls S) := by
  subst hp; exact h.step fun _ k => XS.aload X.here hx rfl hd hl hv k
theorem w_aloadN (X : Stand p l e R s m args below meth c T locs cells slots) (hx : p.tables.exec = Jvm.exec) {k : Fin 4} (v : Value) (hd : decode c.code pc = .ok (.aload_n k, 1)) (pc' : Nat) (hp : pc + 1 = pc') (hl : Ls[k.val]? = some (.val v)) (hv : v.isRef = true) (h : Wk p e below Fe T (mkF m pc' Ls (v :: S))) : Wk p e below Fe T (mkF m pc Ls S) := by
  subst hp; exact h.step fun _ k => XS.aloadN X.here hx rfl hd hl hv k
theorem w_istore (X : Stand p l e R s m args below meth c T locs cells slots) (hx : p.tables.exec = Jvm.exec) {k : Nat} {x : Int32} (hd : decode c.code pc = .ok (.istore k, 2)) (pc' : Nat) (hp : pc + 2 = pc') (l' : Array Slot) (hl : storeLocals Ls k (.int x) = some l') (h : Wk p e below Fe T (mkF m pc' l' S)) : Wk p e below Fe T (mkF m pc Ls (.int x :: S)) := by
  subst hp; exact h.step fun _ k => XS.istore X.here hx rfl hd rfl hl k
theorem w_istoreN (X : Stand p l e R s m args below meth c T locs cells slots) (hx : p.tables.exec = Jvm.exec) {k : Fin 4} {x : Int32} (hd : decode c.code pc = .ok (.istore_n k, 1)) (pc' : Nat) (hp : pc + 1 = pc') (l' : Array Slot) (hl : storeLocals Ls k.val (.int x) = some l') (h : Wk p e below Fe T (mkF m pc' l' S)) : Wk p e below Fe T (mkF m pc Ls (.int x :: S)) := by
  subst hp; exact h.step fun _ k => XS.istoreN X.here hx rfl hd rfl hl k
theorem w_lstore (X : Stand p l e R s m args below meth c T locs cells slots) (hx : p.tables.exec = Jvm.exec) {k : Nat} {x : Int64} (hd : decode c.code pc = .ok (.lstore k, 2)) (pc' : Nat) (hp : pc + 2 = pc') (l' : Array Slot) (hl : storeLocals Ls k (.long x) = some l') (h : Wk p e below Fe T (mkF m pc' l' S)) : Wk p e below Fe T (mkF m pc Ls (.long x :: S)) := by
  subst hp; exact h.step fun _ k => XS.lstore X.here hx rfl hd rfl hl k
theorem w_lstoreN (X : Stand p l e R s m args below meth c T locs cells slots) (hx : p.tables.exec = Jvm.exec) {k : Fin 4} {x : Int64} (hd : decode c.code pc = .ok (.lstore_n k, 1)) (pc' : Nat) (hp : pc + 1 = pc') (l' : Array Slot) (hl : storeLocals Ls k.val (.long x) = some l') (h : Wk p e below Fe T (mkF m pc' l' S)) : Wk p e below Fe T (mkF m pc Ls (.long x :: S)) := by
  subst hp; exact h.step fun _ k => XS.lstoreN X.here hx rfl hd rfl hl k
theorem w_astore (X : Stand p l e R s m args below meth c T locs cells slots) (hx : p.tables.exec = Jvm.exec) {k : Nat} {x : Value} (hd : decode c.code pc = .ok (.astore k, 2)) (pc' : Nat) (hp : pc + 2 = pc') (hv : x.isRef = true) (l' : Array Slot) (hl : storeLocals Ls k x = some l') (h : Wk p e below Fe T (mkF m pc' l' S)) : Wk p e below Fe T (mkF m pc Ls (x :: S)) := by
  subst hp; exact h.step fun _ k => XS.astore X.here hx rfl hd rfl hv hl k
theorem w_iconst (X : Stand p l e R s m args below meth c T locs cells slots) (hx : p.tables.exec = Jvm.exec) {i : Int} (hd : decode c.code pc = .ok (.iconst i, 1)) (pc' : Nat) (hp : pc + 1 = pc') (z : Int32) (hz : Int32.ofInt i = z) (h : Wk p e below Fe T (mkF m pc' Ls (.int z :: S))) : Wk p e below Fe T (mkF m pc Ls S) := by
  subst hp hz; exact h.step fun _ k => XS.iconst X.here hx rfl hd k
theorem w_lconst (X : Stand p l e R s m args below meth c T locs cells slots) (hx : p.tables.exec = Jvm.exec) {k : Fin 2} (hd : decode c.code pc = .ok (.lconst k, 1)) (pc' : Nat) (hp : pc + 1 = pc') (z : Int64) (hz : Int64.ofNat k = z) (h : Wk p e below Fe T (mkF m pc' Ls (.long z :: S))) : Wk p e below Fe T (mkF m pc Ls S) := by
  subst hp hz; exact h.step fun _ k => XS.lconst X.here hx rfl hd k
theorem w_ldc (X : Stand p l e R s m args below meth c T locs cells slots) (hx : p.tables.exec = Jvm.exec) (hZ : Z.Warmed39 s.vm) {own : String} {index : Nat} {v : Int32} (hown : s.vm.findClass own = some m.cls) (w : (Cond.constant own index v).before a0 Z = true) (hd : decode c.code pc = .ok (.ldc index, 2)) (pc' : Nat) (hp : pc + 2 = pc') (h : Wk p e below Fe T (mkF m pc' Ls (.int v :: S))) : Wk p e below Fe T (mkF m pc Ls S) := by
  subst hp; exact h.step fun _ k => X.ldcInt hx hown (mvT hZ w) (g := mkF m pc Ls S) rfl hd _ k
theorem w_isub (X : Stand p l e R s m args below meth c T locs cells slots) (hx : p.tables.exec = Jvm.exec) {x y : Int32} (hd : decode c.code pc = .ok (.isub, 1)) (pc' : Nat) (hp : pc + 1 = pc') {z : Int32} (hz : z = x - y) (h : Wk p e below Fe T (mkF m pc' Ls (.int z :: S))) : Wk p e below Fe T (mkF m pc Ls (.int y :: .int x :: S)) := by
  subst hp hz; exact h.step fun _ k => XS.isub X.here hx rfl hd rfl k
theorem w_iand (X : Stand p l e R s m args below meth c T locs cells slots) (hx : p.tables.exec = Jvm.exec) {x y : Int32} (hd : decode c.code pc = .ok (.iand, 1)) (pc' : Nat) (hp : pc + 1 = pc') {z : Int32} (hz : z = x &&& y) (h : Wk p e below Fe T (mkF m pc' Ls (.int z :: S))) : Wk p e below Fe T (mkF m pc Ls (.int y :: .int x :: S)) := by
  subst hp hz; exact h.step fun _ k => XS.iand X.here hx rfl hd rfl k
theorem w_ishr (X : Stand p l e R s m args below meth c T locs cells slots) (hx : p.tables.exec = Jvm.exec) {x y : Int32} (hd : decode c.code pc = .ok (.ishr, 1)) (pc' : Nat) (hp : pc + 1 = pc') {z : Int32} (hz : z = x >>> (y &&& 31)) (h : Wk p e below Fe T (mkF m pc' Ls (.int z :: S))) : Wk p e below Fe T (mkF m pc Ls (.int y :: .int x :: S)) := by
  subst hp hz; exact h.step fun _ k => XS.ishr X.here hx rfl hd rfl k
theorem w_ladd (X : Stand p l e R s m args below meth c T locs cells slots) (hx : p.tables.exec = Jvm.exec) {x y : Int64} (hd : decode c.code pc = .ok (.ladd, 1)) (pc' : Nat) (hp : pc + 1 = pc') {z : Int64} (hz : z = x + y) (h : Wk p e below Fe T (mkF m pc' Ls (.long z :: S))) : Wk p e below Fe T (mkF m pc Ls (.long y :: .long x :: S)) := by
  subst hp hz; exact h.step fun _ k => XS.ladd X.here hx rfl hd rfl k
theorem w_lsub (X : Stand p l e R s m args below meth c T locs cells slots) (hx : p.tables.exec = Jvm.exec) {x y : Int64} (hd : decode c.code pc = .ok (.lsub, 1)) (pc' : Nat) (hp : pc + 1 = pc') {z : Int64} (hz : z = x - y) (h : Wk p e below Fe T (mkF m pc' Ls (.long z :: S))) : Wk p e below Fe T (mkF m pc Ls (.long y :: .long x :: S)) := by
  subst hp hz; exact h.step fun _ k => XS.lsub X.here hx rfl hd rfl k
theorem w_lcmp (X : Stand p l e R s m args below meth c T locs cells slots) (hx : p.tables.exec = Jvm.exec) {x y : Int64} (hd : decode c.code pc = .ok (.lcmp, 1)) (pc' : Nat) (hp : pc + 1 = pc') {z : Int32} (hz : z = lcmpW x y) (h : Wk p e below Fe T (mkF m pc' Ls (.int z :: S))) : Wk p e below Fe T (mkF m pc Ls (.long y :: .long x :: S)) := by
  subst hp hz; exact h.step fun _ k => XS.lcmp X.here hx rfl hd rfl k
theorem w_i2l (X : Stand p l e R s m args below meth c T locs cells slots) (hx : p.tables.exec = Jvm.exec) {x : Int32} (hd : decode c.code pc = .ok (.i2l, 1)) (pc' : Nat) (hp : pc + 1 = pc') {z : Int64} (hz : z = x.toInt64) (h : Wk p e below Fe T (mkF m pc' Ls (.long z :: S))) : Wk p e below Fe T (mkF m pc Ls (.int x :: S)) := by
  subst hp hz; exact h.step fun _ k => XS.i2l X.here hx rfl hd rfl k
theorem w_l2i (X : Stand p l e R s m args below meth c T locs cells slots) (hx : p.tables.exec = Jvm.exec) {x : Int64} (hd : decode c.code pc = .ok (.l2i, 1)) (pc' : Nat) (hp : pc + 1 = pc') {z : Int32} (hz : z = x.toInt32) (h : Wk p e below Fe T (mkF m pc' Ls (.int z :: S))) : Wk p e below Fe T (mkF m pc Ls (.long x :: S)) := by
  subst hp hz; exact h.step fun _ k => XS.l2i X.here hx rfl hd rfl k
theorem w_dup (X : Stand p l e R s m args below meth c T locs cells slots) (hx : p.tables.exec = Jvm.exec) {x : Value} (hd : decode c.code pc = .ok (.dup, 1)) (pc' : Nat) (hp : pc + 1 = pc') (hc : x.category = 1) (h : Wk p e below Fe T (mkF m pc' Ls (x :: x :: S))) : Wk p e below Fe T (mkF m pc Ls (x :: S)) := by
  subst hp; exact h.step fun _ k => XS.dup X.here hx rfl hd rfl hc k
theorem w_goto (X : Stand p l e R s m args below meth c T locs cells slots) (hx : p.tables.exec = Jvm.exec) {o : Int} (hd : decode c.code pc = .ok (.goto o, 3)) (pc' : Nat) (h : Wk p e below Fe T (mkF m pc' Ls S)) (ho : 0 ≤ (pc : Int) + o := by decide) (hp : ((pc : Int) + o).toNat = pc' := by decide) : Wk p e below Fe T (mkF m pc Ls S) := by
  exact h.step fun _ k => XS.goto X.here hx rfl rfl hd ho hp k
theorem holds_eq {x y : Int32} {A B : Int} (ha : x.toInt = A) (hb : y.toInt = B) : ((A = B) → if_icmp.holds .eq x y = true) ∧ ((¬ A = B) → if_icmp.holds .eq x y = false) := by
  subst ha hb
  constructor
  · intro q
    first
    | exact (tlt (x := x) (y := y) (Int32.lt_iff_toInt_lt.mpr (by omega))).1
    | exact (flt (x := x) (y := y) (fun r => by have := Int32.lt_iff_toInt_lt.mp r; omega)).2.1
    | exact (tlt (x := y) (y := x) (Int32.lt_iff_toInt_lt.mpr (by omega))).2.2.1
    | exact (flt (x := y) (y := x) (fun r => by have := Int32.lt_iff_toInt_lt.mp r; omega)).2.2.2
    | exact (teq (x := x) (y := y) (Int32.toInt_inj.mp (by omega))).1
    | exact (feq (x := x) (y := y) (fun r => q (by rw [r]))).2
  · intro q
    first
    | exact (flt (x := x) (y := y) (fun r => by have := Int32.lt_iff_toInt_lt.mp r; omega)).1
    | exact (tlt (x := x) (y := y) (Int32.lt_iff_toInt_lt.mpr (by omega))).2.1
    | exact (flt (x := y) (y := x) (fun r => by have := Int32.lt_iff_toInt_lt.mp r; omega)).2.2.1
    | exact (tlt (x := y) (y := x) (Int32.lt_iff_toInt_lt.mpr (by omega))).2.2.2
    | exact (feq (x := x) (y := y) (fun r => q (by rw [r]))).1
    | exact (teq (x := x) (y := y) (Int32.toInt_inj.mp (by omega))).2
theorem w_icmp_eq (X : Stand p l e R s m args below meth c T locs cells slots) (hx : p.tables.exec = Jvm.exec) {x y : Int32} {o : Int} (A B : Int) (ha : x.toInt = A) (hb : y.toInt = B) (hd : decode c.code pc = .ok (.if_icmp .eq o, 3)) (pt pn : Nat) (h1 : A = B → Wk p e below Fe T (mkF m pt Ls S)) (h2 : ¬ A = B → Wk p e below Fe T (mkF m pn Ls S)) (ho : 0 ≤ (pc : Int) + o := by decide) (hp : ((pc : Int) + o).toNat = pt := by decide) (hn : pc + 3 = pn := by rfl) : Wk p e below Fe T (mkF m pc Ls (.int y :: .int x :: S)) := by
  subst hn
  by_cases q : A = B
  · exact (h1 q).step fun _ k => XS.icmpYes X.here hx rfl rfl hd rfl ((holds_eq ha hb).1 q) ho hp k
  · have q' : ¬ A = B := by omega
    exact (h2 q').step fun _ k => XS.icmpNo X.here hx rfl hd rfl ((holds_eq ha hb).2 q') k
theorem w_if_eq (X : Stand p l e R s m args below meth c T locs cells slots) (hx : p.tables.exec = Jvm.exec) {x : Int32} {o : Int} (A : Int) (ha : x.toInt = A) (hd : decode c.code pc = .ok (.ifCond .eq o, 3)) (pt pn : Nat) (h1 : A = 0 → Wk p e below Fe T (mkF m pt Ls S)) (h2 : ¬ A = 0 → Wk p e below Fe T (mkF m pn Ls S)) (ho : 0 ≤ (pc : Int) + o := by decide) (hp : ((pc : Int) + o).toNat = pt := by decide) (hn : pc + 3 = pn := by rfl) : Wk p e below Fe T (mkF m pc Ls (.int x :: S)) := by
  subst hn
  have hb : (0 : Int32).toInt = 0 := rfl
  by_cases q : A = 0
  · exact (h1 q).step fun _ k => XS.ifYes X.here hx rfl rfl hd rfl ((if0 _ _).trans ((holds_eq ha hb).1 q)) ho hp k
  · have q' : ¬ A = 0 := by omega
    exact (h2 q').step fun _ k => XS.ifNo X.here hx rfl hd rfl ((if0 _ _).trans ((holds_eq ha hb).2 q')) k
theorem holds_ne {x y : Int32} {A B : Int} (ha : x.toInt = A) (hb : y.toInt = B) : ((¬ A = B) → if_icmp.holds .ne x y = true) ∧ ((A = B) → if_icmp.holds .ne x y = false) := by
  subst ha hb
  constructor
  · intro q
    first
    | exact (tlt (x := x) (y := y) (Int32.lt_iff_toInt_lt.mpr (by omega))).1
    | exact (flt (x := x) (y := y) (fun r => by have := Int32.lt_iff_toInt_lt.mp r; omega)).2.1
    | exact (tlt (x := y) (y := x) (Int32.lt_iff_toInt_lt.mpr (by omega))).2.2.1
    | exact (flt (x := y) (y := x) (fun r => by have := Int32.lt_iff_toInt_lt.mp r; omega)).2.2.2
    | exact (teq (x := x) (y := y) (Int32.toInt_inj.mp (by omega))).1
    | exact (feq (x := x) (y := y) (fun r => q (by rw [r]))).2
  · intro q
    first
    | exact (flt (x := x) (y := y) (fun r => by have := Int32.lt_iff_toInt_lt.mp r; omega)).1
    | exact (tlt (x := x) (y := y) (Int32.lt_iff_toInt_lt.mpr (by omega))).2.1
    | exact (flt (x := y) (y := x) (fun r => by have := Int32.lt_iff_toInt_lt.mp r; omega)).2.2.1
    | exact (tlt (x := y) (y := x) (Int32.lt_iff_toInt_lt.mpr (by omega))).2.2.2
    | exact (feq (x := x) (y := y) (fun r => q (by rw [r]))).1
    | exact (teq (x := x) (y := y) (Int32.toInt_inj.mp (by omega))).2
theorem w_icmp_ne (X : Stand p l e R s m args below meth c T locs cells slots) (hx : p.tables.exec = Jvm.exec) {x y : Int32} {o : Int} (A B : Int) (ha : x.toInt = A) (hb : y.toInt = B) (hd : decode c.code pc = .ok (.if_icmp .ne o, 3)) (pt pn : Nat) (h1 : ¬ A = B → Wk p e below Fe T (mkF m pt Ls S)) (h2 : A = B → Wk p e below Fe T (mkF m pn Ls S)) (ho : 0 ≤ (pc : Int) + o := by decide) (hp : ((pc : Int) + o).toNat = pt := by decide) (hn : pc + 3 = pn := by rfl) : Wk p e below Fe T (mkF m pc Ls (.int y :: .int x :: S)) := by
  subst hn
  by_cases q : ¬ A = B
  · exact (h1 q).step fun _ k => XS.icmpYes X.here hx rfl rfl hd rfl ((holds_ne ha hb).1 q) ho hp k
  · have q' : A = B := by omega
    exact (h2 q').step fun _ k => XS.icmpNo X.here hx rfl hd rfl ((holds_ne ha hb).2 q') k
theorem holds_lt {x y : Int32} {A B : Int} (ha : x.toInt = A) (hb : y.toInt = B) : ((A < B) → if_icmp.holds .lt x y = true) ∧ ((B ≤ A) → if_icmp.holds .lt x y = false) := by
  subst ha hb
  constructor
  · intro q
    first
    | exact (tlt (x := x) (y := y) (Int32.lt_iff_toInt_lt.mpr (by omega))).1
    | exact (flt (x := x) (y := y) (fun r => by have := Int32.lt_iff_toInt_lt.mp r; omega)).2.1
    | exact (tlt (x := y) (y := x) (Int32.lt_iff_toInt_lt.mpr (by omega))).2.2.1
    | exact (flt (x := y) (y := x) (fun r => by have := Int32.lt_iff_toInt_lt.mp r; omega)).2.2.2
    | exact (teq (x := x) (y := y) (Int32.toInt_inj.mp (by omega))).1
    | exact (feq (x := x) (y := y) (fun r => q (by rw [r]))).2
  · intro q
    first
    | exact (flt (x := x) (y := y) (fun r => by have := Int32.lt_iff_toInt_lt.mp r; omega)).1
    | exact (tlt (x := x) (y := y) (Int32.lt_iff_toInt_lt.mpr (by omega))).2.1
    | exact (flt (x := y) (y := x) (fun r => by have := Int32.lt_iff_toInt_lt.mp r; omega)).2.2.1
    | exact (tlt (x := y) (y := x) (Int32.lt_iff_toInt_lt.mpr (by omega))).2.2.2
    | exact (feq (x := x) (y := y) (fun r => q (by rw [r]))).1
    | exact (teq (x := x) (y := y) (Int32.toInt_inj.mp (by omega))).2
theorem w_icmp_lt (X : Stand p l e R s m args below meth c T locs cells slots) (hx : p.tables.exec = Jvm.exec) {x y : Int32} {o : Int} (A B : Int) (ha : x.toInt = A) (hb : y.toInt = B) (hd : decode c.code pc = .ok (.if_icmp .lt o, 3)) (pt pn : Nat) (h1 : A < B → Wk p e below Fe T (mkF m pt Ls S)) (h2 : B ≤ A → Wk p e below Fe T (mkF m pn Ls S)) (ho : 0 ≤ (pc : Int) + o := by decide) (hp : ((pc : Int) + o).toNat = pt := by decide) (hn : pc + 3 = pn := by rfl) : Wk p e below Fe T (mkF m pc Ls (.int y :: .int x :: S)) := by
  subst hn
  by_cases q : A < B
  · exact (h1 q).step fun _ k => XS.icmpYes X.here hx rfl rfl hd rfl ((holds_lt ha hb).1 q) ho hp k
  · have q' : B ≤ A := by omega
    exact (h2 q').step fun _ k => XS.icmpNo X.here hx rfl hd rfl ((holds_lt ha hb).2 q') k
theorem w_if_lt (X : Stand p l e R s m args below meth c T locs cells slots) (hx : p.tables.exec = Jvm.exec) {x : Int32} {o : Int} (A : Int) (ha : x.toInt = A) (hd : decode c.code pc = .ok (.ifCond .lt o, 3)) (pt pn : Nat) (h1 : A < 0 → Wk p e below Fe T (mkF m pt Ls S)) (h2 : 0 ≤ A → Wk p e below Fe T (mkF m pn Ls S)) (ho : 0 ≤ (pc : Int) + o := by decide) (hp : ((pc : Int) + o).toNat = pt := by decide) (hn : pc + 3 = pn := by rfl) : Wk p e below Fe T (mkF m pc Ls (.int x :: S)) := by
  subst hn
  have hb : (0 : Int32).toInt = 0 := rfl
  by_cases q : A < 0
  · exact (h1 q).step fun _ k => XS.ifYes X.here hx rfl rfl hd rfl ((if0 _ _).trans ((holds_lt ha hb).1 q)) ho hp k
  · have q' : 0 ≤ A := by omega
    exact (h2 q').step fun _ k => XS.ifNo X.here hx rfl hd rfl ((if0 _ _).trans ((holds_lt ha hb).2 q')) k
theorem holds_ge {x y : Int32} {A B : Int} (ha : x.toInt = A) (hb : y.toInt = B) : ((B ≤ A) → if_icmp.holds .ge x y = true) ∧ ((A < B) → if_icmp.holds .ge x y = false) := by
  subst ha hb
  constructor
  · intro q
    first
    | exact (tlt (x := x) (y := y) (Int32.lt_iff_toInt_lt.mpr (by omega))).1
    | exact (flt (x := x) (y := y) (fun r => by have := Int32.lt_iff_toInt_lt.mp r; omega)).2.1
    | exact (tlt (x := y) (y := x) (Int32.lt_iff_toInt_lt.mpr (by omega))).2.2.1
    | exact (flt (x := y) (y := x) (fun r => by have := Int32.lt_iff_toInt_lt.mp r; omega)).2.2.2
    | exact (teq (x := x) (y := y) (Int32.toInt_inj.mp (by omega))).1
    | exact (feq (x := x) (y := y) (fun r => q (by rw [r]))).2
  · intro q
    first
    | exact (flt (x := x) (y := y) (fun r => by have := Int32.lt_iff_toInt_lt.mp r; omega)).1
    | exact (tlt (x := x) (y := y) (Int32.lt_iff_toInt_lt.mpr (by omega))).2.1
    | exact (flt (x := y) (y := x) (fun r => by have := Int32.lt_iff_toInt_lt.mp r; omega)).2.2.1
    | exact (tlt (x := y) (y := x) (Int32.lt_iff_toInt_lt.mpr (by omega))).2.2.2
    | exact (feq (x := x) (y := y) (fun r => q (by rw [r]))).1
    | exact (teq (x := x) (y := y) (Int32.toInt_inj.mp (by omega))).2
theorem w_icmp_ge (X : Stand p l e R s m args below meth c T locs cells slots) (hx : p.tables.exec = Jvm.exec) {x y : Int32} {o : Int} (A B : Int) (ha : x.toInt = A) (hb : y.toInt = B) (hd : decode c.code pc = .ok (.if_icmp .ge o, 3)) (pt pn : Nat) (h1 : B ≤ A → Wk p e below Fe T (mkF m pt Ls S)) (h2 : A < B → Wk p e below Fe T (mkF m pn Ls S)) (ho : 0 ≤ (pc : Int) + o := by decide) (hp : ((pc : Int) + o).toNat = pt := by decide) (hn : pc + 3 = pn := by rfl) : Wk p e below Fe T (mkF m pc Ls (.int y :: .int x :: S)) := by
  subst hn
  by_cases q : B ≤ A
  · exact (h1 q).step fun _ k => XS.icmpYes X.here hx rfl rfl hd rfl ((holds_ge ha hb).1 q) ho hp k
  · have q' : A < B := by omega
    exact (h2 q').step fun _ k => XS.icmpNo X.here hx rfl hd rfl ((holds_ge ha hb).2 q') k
theorem w_retN (X : Stand p l e R s m args below meth c T locs cells slots) (hx : p.tables.exec = Jvm.exec) (hlocks : meth.locks = false) {t : FieldType} {z : Int32} (hret : meth.sig.returnType = some t) (ht : t = .boolean ∨ t = .byte ∨ t = .char ∨ t = .short) (hd : decode c.code pc = .ok (.ireturn, 1)) (hc : cells ≤ kc) (hs : slots ≤ ks) (hQ : Q (some (.int (nar t z))) T.heap locs) : Wk p e below (FN s Q kc ks) T (mkF m pc Ls (.int z :: S)) := by
  obtain ⟨fs, hr, hrun, hended, hW, hsame⟩ := X.leave (v := some (.int (nar t z))) (fun h => by rw [hret] at h; cases h) hlocks
  exact ⟨_, _, retN X hx hret ht hd hr, hrun, hended, _, _, rfl, hQ, ⟨_, rfl⟩, hW, hsame.mono hc hs⟩
theorem w_retO (X : Stand p l e R s m args below meth c T locs cells slots) (hx : p.tables.exec = Jvm.exec) (hlocks : meth.locks = false) {t : FieldType} {w : Value} {i : Instr} (hret : meth.sig.returnType = some t) (hn : narrow t w = w)
    (hi : (i = .ireturn ∧ (t = .int ∨ t = .boolean ∨ t = .byte ∨ t = .char ∨ t = .short) ∧ ∃ z, w = .int z) ∨ (i = .lreturn ∧ t = .long ∧ ∃ z, w = .long z) ∨ (i = .dreturn ∧ t = .double ∧ ∃ z, w = .double z) ∨ (i = .freturn ∧ t = .float ∧ ∃ z, w = .float z) ∨ (i = .areturn ∧ t.isReference = true ∧ w.isRef = true))
    (hd : decode c.code pc = .ok (i, 1)) (hc : cells ≤ kc) (hs : slots ≤ ks) (hQ : Q (some w) T.heap locs) : Wk p e below (FN s Q kc ks) T (mkF m pc Ls (w :: S)) := by
  obtain ⟨fs, hr, hrun, hended, hW, hsame⟩ := X.leave (v := some w) (fun h => by rw [hret] at h; cases h) hlocks
  exact ⟨_, _, retOut X hx hret hn hi hd hr, hrun, hended, _, _, rfl, hQ, ⟨_, rfl⟩, hW, hsame.mono hc hs⟩
theorem w_retI (X : Stand p l e R s m args below meth c T locs cells slots) (hx : p.tables.exec = Jvm.exec) (hlocks : meth.locks = false) {z : Int32} (hret : meth.sig.returnType = some .int) (hd : decode c.code pc = .ok (.ireturn, 1)) (hc : cells ≤ kc) (hs : slots ≤ ks) (hQ : Q (some (.int z)) T.heap locs) : Wk p e below (FN s Q kc ks) T (mkF m pc Ls (.int z :: S)) :=
  w_retO X hx hlocks hret rfl (Or.inl ⟨rfl, Or.inl rfl, _, rfl⟩) hd hc hs hQ
theorem w_ret0 (X : Stand p l e R s m args below meth c T locs cells slots) (hx : p.tables.exec = Jvm.exec) (hlocks : meth.locks = false) (hret : meth.sig.returnType = none) (hd : decode c.code pc = .ok (.return_, 1)) (hc : cells ≤ kc) (hs : slots ≤ ks) (hQ : Q none T.heap locs) : Wk p e below (FN s Q kc ks) T (mkF m pc Ls []) := by
  obtain ⟨fs, hr, hrun, hended, hW, hsame⟩ := X.leave (v := none) (fun _ => rfl) hlocks
  exact ⟨_, _, X.returnOut hx hret hd hr, hrun, hended, _, _, rfl, hQ, ⟨_, rfl⟩, hW, hsame.mono hc hs⟩
theorem w_callS (X : Stand p l e R s m args below meth c T locs cells slots) (hx : p.tables.exec = Jvm.exec) (hZ : Z.Warmed39 s.vm) {own : String} {index : Nat} {y : MethodName} {bytes : ByteArray} {maxL : Nat} {ret : Option FieldType} {rm : Room} {as' : Array Value} {Qc : Option Value → Heap → List Loc → Prop} (hown : s.vm.findClass own = some m.cls) (eT : T.heap = h)
    (hM : MetFree l y (head1 [Cond.code y bytes maxL ret] rm) (fun a U => a = as' ∧ Z.Warmed39 U.vm ∧ U.heap = h) (fun _ _ _ _ _ => True) (fun _ U o U' => ∃ v L, o = .returned v ∧ Qc v U'.heap L ∧ FrameEnd U o U' L rm.cells rm.slots))
    (w1 : (Cond.methodLink own index y).before a0 Z = true) (w2 : (Cond.static y).before a0 Z = true) (w3 : (Cond.initialized y.cls).before a0 Z = true) (w4 : (Cond.code y bytes maxL ret).before a0 Z = true) (hy : y.cls ≠ "java/lang/invoke/MethodHandle" ∧ y.cls ≠ "java/lang/invoke/VarHandle")
    (hsize : Ls.size = c.maxLocals) (argsL rest : List Value) (hlen : ∀ sig, parseMethodDescriptor y.desc = some sig → argsL.length = sig.parameters.length) (hst : S = argsL.reverse ++ rest) (has : argsL.toArray = as')
    (hf : rm.frames + 1 ≤ R.frames) (W : Nat) (hW : (rest.map fun v => v.category).sum = W) (hl : W + (maxL + 11) + rm.locals ≤ R.locals) (hc : cells + rm.cells ≤ R.cells) (hs : slots + rm.slots ≤ R.slots) (hd : decode c.code pc = .ok (.invokestatic index, 3)) (pc' : Nat) (hp : pc + 3 = pc')
    (k : ∀ (v : Option Value) (T' : State) (L : List Loc), Stand p l e R s m args below meth c T' (locs ++ L) (cells + rm.cells) (slots + rm.slots) → Qc v T'.heap L → Wk p e below Fe T' (mkF m pc' Ls (v.toList ++ rest))) : Wk p e below Fe T (mkF m pc Ls S) := by
  subst hp hst has hW
  obtain ⟨v, _, ⟨T', L', k', n'⟩, -, X', ⟨Lc, q1, q2, q3, q4⟩, st⟩ := Jvm.LawKit.callS X hx hown (mvT hZ w1) (mvT hZ w2) (mvT hZ w3) (mvT hZ w4) hy (backOf hM hZ w4 w3 hf hl) (g := mkF m pc Ls (argsL.reverse ++ rest)) rfl hsize hlen rfl (by show 2 * 0 + _ ≤ _; rw [Nat.mul_zero, Nat.zero_add]; exact Nat.le_refl _) hd (fun _ _ => ⟨rfl, eT, hc, hs⟩)
  dsimp only [Pt.U, Pt.locs, Pt.cells, Pt.slots] at X' q2 q3 q4 st q1
  subst q2 q3 q4
  exact (k v T' Lc X' q1).step st
theorem w_init (X : Stand p l e R s m args below meth c T locs cells slots) (hx : p.tables.exec = Jvm.exec) (hZ : Z.Warmed39 s.vm) {own : String} {index : Nat} {y : MethodName} {bytes : ByteArray} {maxL : Nat} {rm : Room} {as' : Array Value} {Qc : Option Value → Heap → List Loc → Prop} (hy1 : y.name = "<init>") (hown : s.vm.findClass own = some m.cls) (eT : T.heap = h)
    (hM : MetFree l y (head1 [Cond.code y bytes maxL none] rm) (fun a U => a = as' ∧ Z.Warmed39 U.vm ∧ U.heap = h) (fun _ _ _ _ _ => True) (fun _ U o U' => ∃ v L, o = .returned v ∧ Qc v U'.heap L ∧ FrameEnd U o U' L rm.cells rm.slots))
    (w1 : (Cond.methodLink own index y).before a0 Z = true) (w2 : (Cond.instanceMethod y).before a0 Z = true) (w3 : (Cond.initialized y.cls).before a0 Z = true) (w4 : (Cond.code y bytes maxL none).before a0 Z = true) (hy : y.cls ≠ "java/lang/invoke/MethodHandle" ∧ y.cls ≠ "java/lang/invoke/VarHandle")
    (hsize : Ls.size = c.maxLocals) (a : Addr) (argsL rest : List Value) (hlen : ∀ sig, parseMethodDescriptor y.desc = some sig → argsL.length = sig.parameters.length) (hst : S = argsL.reverse ++ .ref a :: rest) (has : (Value.ref a :: argsL).toArray = as')
    (hf : rm.frames + 1 ≤ R.frames) (W : Nat) (hW : (rest.map fun v => v.category).sum = W) (hl : W + (maxL + 11) + rm.locals ≤ R.locals) (hc : cells + rm.cells ≤ R.cells) (hs : slots + rm.slots ≤ R.slots) (hd : decode c.code pc = .ok (.invokespecial index, 3)) (pc' : Nat) (hp : pc + 3 = pc')
    (k : ∀ (v : Option Value) (T' : State) (L : List Loc), Stand p l e R s m args below meth c T' (locs ++ L) (cells + rm.cells) (slots + rm.slots) → Qc v T'.heap L → Wk p e below Fe T' (mkF m pc' Ls (v.toList ++ rest))) : Wk p e below Fe T (mkF m pc Ls S) := by
  subst hp hst has hW
  obtain ⟨v, _, ⟨T', L', k', n'⟩, -, X', ⟨Lc, q1, q2, q3, q4⟩, st⟩ := X.specialBack hx hy1 hown (mvT hZ w1) (mvT hZ w2) (mvT hZ w4) hy (backOf hM hZ w4 w3 hf hl) (g := mkF m pc Ls (argsL.reverse ++ .ref a :: rest)) rfl hsize (Steps.refl _) hlen rfl (by show 2 * 0 + _ ≤ _; rw [Nat.mul_zero, Nat.zero_add]; exact Nat.le_refl _) hd (fun _ _ => ⟨rfl, eT, hc, hs⟩)
  dsimp only [Pt.U, Pt.locs, Pt.cells, Pt.slots] at X' q2 q3 q4 st q1
  subst q2 q3 q4
  exact (k v T' Lc X' q1).come st
theorem w_virt (X : Stand p l e R s m args below meth c T locs cells slots) (hx : p.tables.exec = Jvm.exec) (hZ : Z.Warmed39 s.vm) {own : String} {index : Nat} {y : MethodName} {bytes : ByteArray} {maxL : Nat} {ret : Option FieldType} {rm : Room} {as' : Array Value} {Qc : Option Value → Heap → List Loc → Prop} {C : String} {y0 : MethodName} (hown : s.vm.findClass own = some m.cls) (eT : T.heap = h)
    (hM : MetFree l y (head1 [Cond.code y bytes maxL ret] rm) (fun a U => a = as' ∧ Z.Warmed39 U.vm ∧ U.heap = h) (fun _ _ _ _ _ => True) (fun _ U o U' => ∃ v L, o = .returned v ∧ Qc v U'.heap L ∧ FrameEnd U o U' L rm.cells rm.slots))
    (w1 : (Cond.methodLink own index y0).before a0 Z = true) (w2 : (Cond.declares y0).before a0 Z = true) (nf : NotFace s y0) (w5 : (Cond.selects C y0 y).before a0 Z = true) (w6 : (Cond.instanceMethod y).before a0 Z = true) (w3 : (Cond.initialized y.cls).before a0 Z = true) (w4 : (Cond.code y bytes maxL ret).before a0 Z = true) (hy : y0.cls ≠ "java/lang/invoke/MethodHandle" ∧ y0.cls ≠ "java/lang/invoke/VarHandle")
    (a : Addr) (E : Exa Z h a C)
    (hsize : Ls.size = c.maxLocals) (argsL rest : List Value) (hlen : ∀ sig, parseMethodDescriptor y0.desc = some sig → argsL.length = sig.parameters.length) (hst : S = argsL.reverse ++ .ref a :: rest) (has : (Value.ref a :: argsL).toArray = as')
    (hf : rm.frames + 1 ≤ R.frames) (W : Nat) (hW : (rest.map fun v => v.category).sum = W) (hl : W + (maxL + 11) + rm.locals ≤ R.locals) (hc : cells + rm.cells ≤ R.cells) (hs : slots + rm.slots ≤ R.slots) (hd : decode c.code pc = .ok (.invokevirtual index, 3)) (pc' : Nat) (hp : pc + 3 = pc')
    (k : ∀ (v : Option Value) (T' : State) (L : List Loc), Stand p l e R s m args below meth c T' (locs ++ L) (cells + rm.cells) (slots + rm.slots) → Qc v T'.heap L → Wk p e below Fe T' (mkF m pc' Ls (v.toList ++ rest))) : Wk p e below Fe T (mkF m pc Ls S) := by
  subst hp hst has hW
  obtain ⟨cq, kq, qa, qb, qc⟩ := isOf hZ eT E
  obtain ⟨v, _, ⟨T', L', k', n'⟩, -, X', ⟨Lc, q1, q2, q3, q4⟩, st⟩ := X.virtualBack hx hown (mvT hZ w1) (mvT hZ w2) nf (mvT hZ w5) (mvT hZ w6) hy (backOf hM hZ w4 w3 hf hl) qa qc (g := mkF m pc Ls (argsL.reverse ++ .ref a :: rest)) rfl hsize (Steps.refl _) hlen rfl (by show 2 * 0 + _ ≤ _; rw [Nat.mul_zero, Nat.zero_add]; exact Nat.le_refl _) hd (fun _ _ => ⟨rfl, eT, hc, hs⟩)
  dsimp only [Pt.U, Pt.locs, Pt.cells, Pt.slots] at X' q2 q3 q4 st q1
  subst q2 q3 q4
  exact (k v T' Lc X' q1).come st
theorem w_objinit (X : Stand p l e R s m args below meth c T locs cells slots) (hx : p.tables.exec = Jvm.exec) (hZ : Z.Warmed39 s.vm) {own : String} {idx : Nat} (hown : s.vm.findClass own = some m.cls) (eT : T.heap = h) (w1 : (Cond.methodLink own idx Lib.objectInit).before a0 Z = true) (w2 : (Cond.instanceMethod Lib.objectInit).before a0 Z = true) (w3 : (Cond.code Lib.objectInit ⟨#[0xb1]⟩ 1 none).before a0 Z = true)
    (hsize : Ls.size = c.maxLocals) {a : Addr} (hf : 1 ≤ R.frames) (W : Nat) (hW : (S.map fun v => v.category).sum = W) (hl : W + 12 ≤ R.locals) (hd : decode c.code pc = .ok (.invokespecial idx, 3)) (pc' : Nat) (hp : pc + 3 = pc')
    (k : ∀ T' : State, Stand p l e R s m args below meth c T' locs cells slots → T'.heap = h → Wk p e below Fe T' (mkF m pc' Ls S)) : Wk p e below Fe T (mkF m pc Ls (.ref a :: S)) := by
  subst hp hW
  obtain ⟨T', X', e', st⟩ := initO X hx hZ hown w1 w2 w3 eT (g := mkF m pc Ls (.ref a :: S)) rfl hsize rfl hd hf (by show 2 * 0 + _ ≤ _; rw [Nat.mul_zero, Nat.zero_add]; exact Nat.le_refl _) hl
  exact (k T' X' e').step st
theorem w_getF (X : Stand p l e R s m args below meth c T locs cells slots) (hx : p.tables.exec = Jvm.exec) (hZ : Z.Warmed39 s.vm) {own R0 O n d host : String} {index : Nat} (hown : s.vm.findClass own = some m.cls) (eT : T.heap = h) (w : (Cond.fieldLink own index R0 n d).before a0 Z = true ∨ (Cond.fieldLinkNest own index R0 n d host).before a0 Z = true) (via : Via Z R0 O n d)
    {a : Addr} {v : Value} (F : Fld Z h a O n d v) (hd : decode c.code pc = .ok (.getfield index, 3)) (pc' : Nat) (hp : pc + 3 = pc')
    (k : ∀ T' : State, Stand p l e R s m args below meth c T' locs cells slots → T'.heap = h → Wk p e below Fe T' (mkF m pc' Ls (v :: S))) : Wk p e below Fe T (mkF m pc Ls (.ref a :: S)) := by
  subst hp
  obtain ⟨T', X', e', st⟩ := getF X hx hZ hown w via eT F (g := mkF m pc Ls (.ref a :: S)) rfl rfl hd
  exact (k T' X' e').step st
theorem w_putF (X : Stand p l e R s m args below meth c T locs cells slots) (hx : p.tables.exec = Jvm.exec) (hZ : Z.Warmed39 s.vm) {own R0 O n d host C : String} {index kk : Nat} {ty : FieldType} (hown : s.vm.findClass own = some m.cls) (eT : T.heap = h) (w : (Cond.fieldLink own index R0 n d).before a0 Z = true ∨ (Cond.fieldLinkNest own index R0 n d host).before a0 Z = true) (via : Via Z R0 O n d)
    {a : Addr} {v old : Value} (F : Fld Z h a O n d old) (E : Exa Z h a C) (L : (Cond.lays C O n d).before a0 Z = true ∨ ((Cond.laysFinal C O n d).before a0 Z = true ∧ own = O ∧ meth.name = "<init>")) (wi : (Cond.instantiable C kk).before a0 Z = true)
    (hty : parseFieldDescriptor d = some ty) (hn : narrow ty v = v) (hf : fits ty v = true) (hd : decode c.code pc = .ok (.putfield index, 3)) (pc' : Nat) (hp : pc + 3 = pc')
    (k : ∀ (T' : State) (h' : Heap), Stand p l e R s m args below meth c T' (locs ++ [⟨a, Jvm.RoadKit.slotOf Z O n d⟩]) cells slots → T'.heap = h' → Wr h h' a (Jvm.RoadKit.slotOf Z O n d) v → Wk p e below Fe T' (mkF m pc' Ls S)) : Wk p e below Fe T (mkF m pc Ls (v :: .ref a :: S)) := by
  subst hp
  obtain ⟨T', h', X', e', W', st⟩ := putF X hx hZ hown w via eT F E L wi hty hn hf (g := mkF m pc Ls (v :: .ref a :: S)) rfl rfl hd
  exact (k T' h' X' e' W').step st
theorem w_new (X : Stand p l e R s m args below meth c T locs cells slots) (hx : p.tables.exec = Jvm.exec) (hZ : Z.Warmed39 s.vm) {own C : String} {index n : Nat} (hown : s.vm.findClass own = some m.cls) (eT : T.heap = h) (w : (Cond.classLink own index C).before a0 Z = true) (wi : (Cond.instantiable C n).before a0 Z = true) (wz : (Cond.initialized C).before a0 Z = true)
    (hc : cells + 1 ≤ R.cells) (hl : slots + n ≤ R.slots) (hd : decode c.code pc = .ok (.new index, 3)) (pc' : Nat) (hp : pc + 3 = pc')
    (k : ∀ (T' : State) (h' : Heap) (a : Addr), Stand p l e R s m args below meth c T' locs (cells + 1) (slots + n) → T'.heap = h' → a = h.size → Ext h h' → Exa Z h' a C → (∀ {O nm d : String} {ty : FieldType}, Laid Z a0 C O nm d → parseFieldDescriptor d = some ty → Fld Z h' a O nm d (defaultValue ty)) → Wk p e below Fe T' (mkF m pc' Ls (.ref a :: S))) : Wk p e below Fe T (mkF m pc Ls S) := by
  subst hp
  obtain ⟨T', h', X', e', E', A', D', -, st⟩ := newO X hx hZ hown w wi wz eT (g := mkF m pc Ls S) rfl hd hc hl
  exact (k T' h' _ X' e' rfl E' A' D').step st
abbrev CT (l : Launch) (y : MethodName) (bytes : ByteArray) (maxL : Nat) (ret : Option FieldType) (ws : List Cond) (rm : Room) (as' : Array Value) (Z : State) (h0 : Heap) (Q : Option Value → Heap → List Loc → Prop) : Prop :=
  MetFree l y (head1 (Cond.code y bytes maxL ret :: ws) rm) (fun a U => a = as' ∧ Z.Warmed39 U.vm ∧ U.heap = h0) (fun _ _ _ _ _ => True) (fun _ U o U' => ∃ v L, o = .returned v ∧ Q v U'.heap L ∧ FrameEnd U o U' L rm.cells rm.slots)
theorem body_of {y : MethodName} {bytes : ByteArray} {maxL : Nat} {ret : Option FieldType} {ws : List Cond} {rm : Room} {as' : Array Value} {h0 : Heap} (hpl : plainFor y = true)
    (k : ∀ (p : Program) (e : Env) (s : State) (m : MethodId) (below : List Frame) (meth : Method) (c : Code) (s₁ : State), p.tables.exec = Jvm.exec → (∀ {pc : Nat} {r : Except DecodeError (Instr × Nat)}, decode bytes pc = r → decode c.code pc = r) → meth.sig.returnType = ret → meth.locks = false → c.maxLocals = maxL → s.vm.findClass y.cls = some m.cls → meth.name = y.name → Stand p l e rm s m as' below meth c s₁ [] 0 0 → s₁.heap = h0 → Z.Warmed39 s.vm → Wk p e below (FN s Q kc ks) s₁ (entryFrame m as' maxL)) :
    MetFree l y (head1 (Cond.code y bytes maxL ret :: ws) rm) (fun a U => a = as' ∧ Z.Warmed39 U.vm ∧ U.heap = h0) (fun _ _ _ _ _ => True) (fun _ U o U' => ∃ v L, o = .returned v ∧ Q v U'.heap L ∧ FrameEnd U o U' L kc ks) := by
  refine MetFree.of_bodySF hpl hisR ?_
  intro p e s m args below meth c s₁ Bd hml0 hP hK
  obtain ⟨rfl, hZ, hh⟩ := hP
  obtain ⟨s₂, o, h1, h2⟩ := k p e s m below meth c s₁ Bd.exec (fun q => hb Bd.bytes q) Bd.returns Bd.notSynchronized hml0 (findClass_of_methodNamed Bd.named) (name_of_methodNamed Bd.named Bd.method).1 (Stand.of_body Bd) (by rw [← hh, Bd.state]; rfl) hZ
  exact ⟨s₂, o, h1, h2⟩
end Walk
/-! plain facts on Int32 and Int64, in Ints -/
theorem subX {x y : Int32} {A B : Int} (ha : x.toInt = A) (hb : y.toInt = B) (h1 : -2147483648 ≤ A - B) (h2 : A - B < 2147483648) : (x - y).toInt = A - B := by
  have := c_isub x y; have := rng32 (x - y); omega
theorem laddX {x y : Int64} {A B : Int} (ha : x.toInt = A) (hb : y.toInt = B) (h1 : -9223372036854775808 ≤ A + B) (h2 : A + B < 9223372036854775808) : (x + y).toInt = A + B := by
  have := c_ladd x y; have := rng64 (x + y); omega
theorem lsubX {x y : Int64} {A B : Int} (ha : x.toInt = A) (hb : y.toInt = B) (h1 : -9223372036854775808 ≤ A - B) (h2 : A - B < 9223372036854775808) : (x - y).toInt = A - B := by
  have := c_lsub x y; have := rng64 (x - y); omega
theorem lcmpC (x y : Int64) {A B : Int} (ha : x.toInt = A) (hb : y.toInt = B) : ((lcmpW x y).toInt = -1 ∧ A < B) ∨ ((lcmpW x y).toInt = 0 ∧ A = B) ∨ ((lcmpW x y).toInt = 1 ∧ B < A) := by
  have := c_lcmp x y; subst ha hb; omega
theorem maskX {x m : Int32} {A : Int} (k : Nat) (ha : x.toInt = A) (hk : k ≤ 31) (hm : m.toBitVec.toNat = 2 ^ k - 1) : (x &&& m).toInt = A % (2 ^ k : Nat) := by subst ha; exact c_mask x m k hk hm
theorem ishrX {x q : Int32} {A : Int} (k : Nat) (ha : x.toInt = A) (hk : q.toBitVec.toNat % 32 = k) : (x >>> (q &&& 31)).toInt = A / (2 ^ k : Nat) := by subst ha; exact c_ishr x q k hk
theorem i2lX {x : Int32} {A : Int} (ha : x.toInt = A) : x.toInt64.toInt = A := by subst ha; exact c_i2l x
theorem l2iX {x : Int64} {A : Int} (ha : x.toInt = A) (h0 : -2147483648 ≤ A) (h1 : A < 2147483648) : x.toInt32.toInt = A := by
  have := c_l2i x; have := rng32 x.toInt32; subst ha; omega
end Jvm.Own
namespace Jvm.Pilot.@@N@@
open Jvm Jvm.ClassFile Sem Op Lib Jvm.Free Jvm.Stand Jvm.LawKit Jvm.RoadKit Bundle Jvm.Own Jvm.Pilot.@@N@@.Jvm.D
abbrev cN_0 : String := "java/lang/Record"
abbrev cN_1 : String := "fieldglass/spec/Range"
abbrev cN_2 : String := "java/lang/Math"
abbrev cN_3 : String := "fieldglass/spec/RangeFirstInPinLaw"
theorem tw_0 {Z : State} {a0 : Array Value} (hw : ∀ d ∈ tables_1, d.before a0 Z = true) : (Jvm.Cond.constant "fieldglass/spec/RangeFirstInPinLaw" (9 : Nat) (2147483647 : Int32)).before a0 Z = true := hw _ (List.mem_of_getElem? (i := 0) rfl)
theorem tw_1 {Z : State} {a0 : Array Value} (hw : ∀ d ∈ tables_1, d.before a0 Z = true) : (Jvm.Cond.classLink "fieldglass/spec/RangeFirstInPinLaw" (7 : Nat) "fieldglass/spec/Range").before a0 Z = true := hw _ (List.mem_of_getElem? (i := 1) rfl)
theorem tw_2 {Z : State} {a0 : Array Value} (hw : ∀ d ∈ tables_1, d.before a0 Z = true) : (Jvm.Cond.instantiable "fieldglass/spec/Range" (2 : Nat)).before a0 Z = true := hw _ (List.mem_of_getElem? (i := 2) rfl)
theorem tw_3 {Z : State} {a0 : Array Value} (hw : ∀ d ∈ tables_1, d.before a0 Z = true) : (Jvm.Cond.initialized "fieldglass/spec/Range").before a0 Z = true := hw _ (List.mem_of_getElem? (i := 3) rfl)
theorem tw_4 {Z : State} {a0 : Array Value} (hw : ∀ d ∈ tables_1, d.before a0 Z = true) : (Jvm.Cond.methodLink "fieldglass/spec/RangeFirstInPinLaw" (10 : Nat) ({ cls := "fieldglass/spec/Range", name := "<init>", desc := "(II)V" } : Jvm.MethodName)).before a0 Z = true := hw _ (List.mem_of_getElem? (i := 4) rfl)
theorem tw_5 {Z : State} {a0 : Array Value} (hw : ∀ d ∈ tables_1, d.before a0 Z = true) : (Jvm.Cond.instanceMethod ({ cls := "fieldglass/spec/Range", name := "<init>", desc := "(II)V" } : Jvm.MethodName)).before a0 Z = true := hw _ (List.mem_of_getElem? (i := 5) rfl)
theorem tw_6 {Z : State} {a0 : Array Value} (hw : ∀ d ∈ tables_1, d.before a0 Z = true) : (Jvm.Cond.code ({ cls := "fieldglass/spec/Range", name := "<init>", desc := "(II)V" } : Jvm.MethodName) prog_55_method_1_code (3 : Nat) (Option.none : Option Jvm.ClassFile.FieldType)).before a0 Z = true := hw _ (List.mem_of_getElem? (i := 6) rfl)
theorem tw_7 {Z : State} {a0 : Array Value} (hw : ∀ d ∈ tables_1, d.before a0 Z = true) : (Jvm.Cond.methodLink "fieldglass/spec/Range" (1 : Nat) ({ cls := "java/lang/Record", name := "<init>", desc := "()V" } : Jvm.MethodName)).before a0 Z = true := hw _ (List.mem_of_getElem? (i := 7) rfl)
theorem tw_8 {Z : State} {a0 : Array Value} (hw : ∀ d ∈ tables_1, d.before a0 Z = true) : (Jvm.Cond.instanceMethod ({ cls := "java/lang/Record", name := "<init>", desc := "()V" } : Jvm.MethodName)).before a0 Z = true := hw _ (List.mem_of_getElem? (i := 8) rfl)
theorem tw_10 {Z : State} {a0 : Array Value} (hw : ∀ d ∈ tables_1, d.before a0 Z = true) : (Jvm.Cond.initialized "java/lang/Record").before a0 Z = true := hw _ (List.mem_of_getElem? (i := 10) rfl)
theorem tw_11 {Z : State} {a0 : Array Value} (hw : ∀ d ∈ tables_1, d.before a0 Z = true) : (Jvm.Cond.code ({ cls := "java/lang/Record", name := "<init>", desc := "()V" } : Jvm.MethodName) jdk_30_method_1_code (1 : Nat) (Option.none : Option Jvm.ClassFile.FieldType)).before a0 Z = true := hw _ (List.mem_of_getElem? (i := 11) rfl)
theorem tw_12 {Z : State} {a0 : Array Value} (hw : ∀ d ∈ tables_1, d.before a0 Z = true) : (Jvm.Cond.methodLink "java/lang/Record" (1 : Nat) ({ cls := "java/lang/Object", name := "<init>", desc := "()V" } : Jvm.MethodName)).before a0 Z = true := hw _ (List.mem_of_getElem? (i := 12) rfl)
theorem tw_13 {Z : State} {a0 : Array Value} (hw : ∀ d ∈ tables_1, d.before a0 Z = true) : (Jvm.Cond.instanceMethod ({ cls := "java/lang/Object", name := "<init>", desc := "()V" } : Jvm.MethodName)).before a0 Z = true := hw _ (List.mem_of_getElem? (i := 13) rfl)
theorem tw_14 {Z : State} {a0 : Array Value} (hw : ∀ d ∈ tables_1, d.before a0 Z = true) : (Jvm.Cond.code ({ cls := "java/lang/Object", name := "<init>", desc := "()V" } : Jvm.MethodName) object_method_1_code (1 : Nat) (Option.none : Option Jvm.ClassFile.FieldType)).before a0 Z = true := hw _ (List.mem_of_getElem? (i := 14) rfl)
theorem tw_15 {Z : State} {a0 : Array Value} (hw : ∀ d ∈ tables_1, d.before a0 Z = true) : (Jvm.Cond.fieldLink "fieldglass/spec/Range" (30 : Nat) "fieldglass/spec/Range" "first" "I").before a0 Z = true := hw _ (List.mem_of_getElem? (i := 15) rfl)
theorem tw_16 {Z : State} {a0 : Array Value} (hw : ∀ d ∈ tables_1, d.before a0 Z = true) : (Jvm.Cond.laysFinal "fieldglass/spec/Range" "fieldglass/spec/Range" "first" "I").before a0 Z = true := hw _ (List.mem_of_getElem? (i := 16) rfl)
theorem tw_17 {Z : State} {a0 : Array Value} (hw : ∀ d ∈ tables_1, d.before a0 Z = true) : (Jvm.Cond.fieldLink "fieldglass/spec/Range" (34 : Nat) "fieldglass/spec/Range" "last" "I").before a0 Z = true := hw _ (List.mem_of_getElem? (i := 17) rfl)
theorem tw_18 {Z : State} {a0 : Array Value} (hw : ∀ d ∈ tables_1, d.before a0 Z = true) : (Jvm.Cond.laysFinal "fieldglass/spec/Range" "fieldglass/spec/Range" "last" "I").before a0 Z = true := hw _ (List.mem_of_getElem? (i := 18) rfl)
theorem tw_19 {Z : State} {a0 : Array Value} (hw : ∀ d ∈ tables_1, d.before a0 Z = true) : (Jvm.Cond.methodLink "fieldglass/spec/RangeFirstInPinLaw" (13 : Nat) ({ cls := "fieldglass/spec/Range", name := "firstIn", desc := "(I)I" } : Jvm.MethodName)).before a0 Z = true := hw _ (List.mem_of_getElem? (i := 19) rfl)
theorem tw_20 {Z : State} {a0 : Array Value} (hw : ∀ d ∈ tables_1, d.before a0 Z = true) : (Jvm.Cond.declares ({ cls := "fieldglass/spec/Range", name := "firstIn", desc := "(I)I" } : Jvm.MethodName)).before a0 Z = true := hw _ (List.mem_of_getElem? (i := 20) rfl)
theorem tw_21 {Z : State} {a0 : Array Value} (hw : ∀ d ∈ tables_1, d.before a0 Z = true) : (Jvm.Cond.instanceMethod ({ cls := "fieldglass/spec/Range", name := "firstIn", desc := "(I)I" } : Jvm.MethodName)).before a0 Z = true := hw _ (List.mem_of_getElem? (i := 21) rfl)
theorem tw_22 {Z : State} {a0 : Array Value} (hw : ∀ d ∈ tables_1, d.before a0 Z = true) : (Jvm.Cond.selects "fieldglass/spec/Range" ({ cls := "fieldglass/spec/Range", name := "firstIn", desc := "(I)I" } : Jvm.MethodName) ({ cls := "fieldglass/spec/Range", name := "firstIn", desc := "(I)I" } : Jvm.MethodName)).before a0 Z = true := hw _ (List.mem_of_getElem? (i := 22) rfl)
theorem tw_23 {Z : State} {a0 : Array Value} (hw : ∀ d ∈ tables_1, d.before a0 Z = true) : (Jvm.Cond.code ({ cls := "fieldglass/spec/Range", name := "firstIn", desc := "(I)I" } : Jvm.MethodName) prog_55_method_2_code (3 : Nat) (Option.some Jvm.ClassFile.FieldType.int)).before a0 Z = true := hw _ (List.mem_of_getElem? (i := 23) rfl)
theorem tw_24 {Z : State} {a0 : Array Value} (hw : ∀ d ∈ tables_1, d.before a0 Z = true) : (Jvm.Cond.methodLink "fieldglass/spec/Range" (37 : Nat) ({ cls := "java/lang/Math", name := "max", desc := "(II)I" } : Jvm.MethodName)).before a0 Z = true := hw _ (List.mem_of_getElem? (i := 24) rfl)
theorem tw_25 {Z : State} {a0 : Array Value} (hw : ∀ d ∈ tables_1, d.before a0 Z = true) : (Jvm.Cond.static ({ cls := "java/lang/Math", name := "max", desc := "(II)I" } : Jvm.MethodName)).before a0 Z = true := hw _ (List.mem_of_getElem? (i := 25) rfl)
theorem tw_26 {Z : State} {a0 : Array Value} (hw : ∀ d ∈ tables_1, d.before a0 Z = true) : (Jvm.Cond.initialized "java/lang/Math").before a0 Z = true := hw _ (List.mem_of_getElem? (i := 26) rfl)
theorem tw_27 {Z : State} {a0 : Array Value} (hw : ∀ d ∈ tables_1, d.before a0 Z = true) : (Jvm.Cond.code ({ cls := "java/lang/Math", name := "max", desc := "(II)I" } : Jvm.MethodName) jdk_29_method_65_code (2 : Nat) (Option.some Jvm.ClassFile.FieldType.int)).before a0 Z = true := hw _ (List.mem_of_getElem? (i := 27) rfl)
theorem tw_28 {Z : State} {a0 : Array Value} (hw : ∀ d ∈ tables_1, d.before a0 Z = true) : (Jvm.Cond.methodLink "fieldglass/spec/RangeFirstInPinLaw" (17 : Nat) ({ cls := "fieldglass/spec/RangeFirstInPinLaw", name := "expected", desc := "(III)I" } : Jvm.MethodName)).before a0 Z = true := hw _ (List.mem_of_getElem? (i := 28) rfl)
theorem tw_29 {Z : State} {a0 : Array Value} (hw : ∀ d ∈ tables_1, d.before a0 Z = true) : (Jvm.Cond.static ({ cls := "fieldglass/spec/RangeFirstInPinLaw", name := "expected", desc := "(III)I" } : Jvm.MethodName)).before a0 Z = true := hw _ (List.mem_of_getElem? (i := 29) rfl)
theorem tw_30 {Z : State} {a0 : Array Value} (hw : ∀ d ∈ tables_1, d.before a0 Z = true) : (Jvm.Cond.initialized "fieldglass/spec/RangeFirstInPinLaw").before a0 Z = true := hw _ (List.mem_of_getElem? (i := 30) rfl)
theorem tw_31 {Z : State} {a0 : Array Value} (hw : ∀ d ∈ tables_1, d.before a0 Z = true) : (Jvm.Cond.code ({ cls := "fieldglass/spec/RangeFirstInPinLaw", name := "expected", desc := "(III)I" } : Jvm.MethodName) method_3_code (7 : Nat) (Option.some Jvm.ClassFile.FieldType.int)).before a0 Z = true := hw _ (List.mem_of_getElem? (i := 31) rfl)
theorem d2_0 : decode jdk_30_method_1_code 0 = .ok (.aload_n 0, 1) := by decide +kernel
theorem d2_1 : decode jdk_30_method_1_code 1 = .ok (.invokespecial 1, 3) := by decide +kernel
theorem d2_4 : decode jdk_30_method_1_code 4 = .ok (.return_, 1) := by decide +kernel
theorem pn_0 : plainName "java/lang/Record" = true := by first | (simp [plainName, overriddenIn]; done) | decide +kernel
abbrev mN_2 : MethodName := ⟨"java/lang/Record", "<init>", "()V"⟩
theorem pd_0 : parseMethodDescriptor "()V" = some ⟨[], none⟩ := by decide +kernel
theorem d1_0 : decode prog_55_method_1_code 0 = .ok (.aload_n 0, 1) := by decide +kernel
theorem d1_1 : decode prog_55_method_1_code 1 = .ok (.invokespecial 1, 3) := by decide +kernel
theorem d1_4 : decode prog_55_method_1_code 4 = .ok (.iload_n 1, 1) := by decide +kernel
theorem d1_5 : decode prog_55_method_1_code 5 = .ok (.iconst (-1), 1) := by decide +kernel
theorem d1_6 : decode prog_55_method_1_code 6 = .ok (.if_icmp .lt 8, 3) := by decide +kernel
theorem d1_9 : decode prog_55_method_1_code 9 = .ok (.iload_n 2, 1) := by decide +kernel
theorem d1_10 : decode prog_55_method_1_code 10 = .ok (.iconst (-1), 1) := by decide +kernel
theorem d1_11 : decode prog_55_method_1_code 11 = .ok (.if_icmp .ge 34, 3) := by decide +kernel
theorem d1_45 : decode prog_55_method_1_code 45 = .ok (.aload_n 0, 1) := by decide +kernel
theorem d1_46 : decode prog_55_method_1_code 46 = .ok (.iload_n 1, 1) := by decide +kernel
theorem d1_47 : decode prog_55_method_1_code 47 = .ok (.putfield 30, 3) := by decide +kernel
theorem d1_50 : decode prog_55_method_1_code 50 = .ok (.aload_n 0, 1) := by decide +kernel
theorem d1_51 : decode prog_55_method_1_code 51 = .ok (.iload_n 2, 1) := by decide +kernel
theorem d1_52 : decode prog_55_method_1_code 52 = .ok (.putfield 34, 3) := by decide +kernel
theorem d1_55 : decode prog_55_method_1_code 55 = .ok (.return_, 1) := by decide +kernel
theorem pn_1 : plainName "fieldglass/spec/Range" = true := by first | (simp [plainName, overriddenIn]; done) | decide +kernel
abbrev mN_1 : MethodName := ⟨"fieldglass/spec/Range", "<init>", "(II)V"⟩
theorem d5_0 : decode jdk_29_method_65_code 0 = .ok (.iload_n 0, 1) := by decide +kernel
theorem d5_1 : decode jdk_29_method_65_code 1 = .ok (.iload_n 1, 1) := by decide +kernel
theorem d5_2 : decode jdk_29_method_65_code 2 = .ok (.if_icmp .lt 7, 3) := by decide +kernel
theorem d5_5 : decode jdk_29_method_65_code 5 = .ok (.iload_n 0, 1) := by decide +kernel
theorem d5_6 : decode jdk_29_method_65_code 6 = .ok (.goto 4, 3) := by decide +kernel
theorem d5_9 : decode jdk_29_method_65_code 9 = .ok (.iload_n 1, 1) := by decide +kernel
theorem d5_10 : decode jdk_29_method_65_code 10 = .ok (.ireturn, 1) := by decide +kernel
abbrev mN_5 : MethodName := ⟨"java/lang/Math", "max", "(II)I"⟩
theorem pd_1 : parseMethodDescriptor "(II)I" = some ⟨[.int, .int], some .int⟩ := by decide +kernel
theorem d4_0 : decode prog_55_method_2_code 0 = .ok (.aload_n 0, 1) := by decide +kernel
theorem d4_1 : decode prog_55_method_2_code 1 = .ok (.getfield 30, 3) := by decide +kernel
theorem d4_4 : decode prog_55_method_2_code 4 = .ok (.iconst (-1), 1) := by decide +kernel
theorem d4_5 : decode prog_55_method_2_code 5 = .ok (.if_icmp .eq 8, 3) := by decide +kernel
theorem d4_8 : decode prog_55_method_2_code 8 = .ok (.aload_n 0, 1) := by decide +kernel
theorem d4_9 : decode prog_55_method_2_code 9 = .ok (.getfield 30, 3) := by decide +kernel
theorem d4_12 : decode prog_55_method_2_code 12 = .ok (.ireturn, 1) := by decide +kernel
theorem d4_13 : decode prog_55_method_2_code 13 = .ok (.aload_n 0, 1) := by decide +kernel
theorem d4_14 : decode prog_55_method_2_code 14 = .ok (.getfield 34, 3) := by decide +kernel
theorem d4_17 : decode prog_55_method_2_code 17 = .ok (.iconst (-1), 1) := by decide +kernel
theorem d4_18 : decode prog_55_method_2_code 18 = .ok (.if_icmp .ne 7, 3) := by decide +kernel
theorem d4_21 : decode prog_55_method_2_code 21 = .ok (.iconst 0, 1) := by decide +kernel
theorem d4_22 : decode prog_55_method_2_code 22 = .ok (.goto 7, 3) := by decide +kernel
theorem d4_25 : decode prog_55_method_2_code 25 = .ok (.aload_n 0, 1) := by decide +kernel
theorem d4_26 : decode prog_55_method_2_code 26 = .ok (.getfield 34, 3) := by decide +kernel
theorem d4_29 : decode prog_55_method_2_code 29 = .ok (.istore_n 2, 1) := by decide +kernel
theorem d4_30 : decode prog_55_method_2_code 30 = .ok (.iconst 0, 1) := by decide +kernel
theorem d4_31 : decode prog_55_method_2_code 31 = .ok (.iload_n 1, 1) := by decide +kernel
theorem d4_32 : decode prog_55_method_2_code 32 = .ok (.iconst 1, 1) := by decide +kernel
theorem d4_33 : decode prog_55_method_2_code 33 = .ok (.isub, 1) := by decide +kernel
theorem d4_34 : decode prog_55_method_2_code 34 = .ok (.iload_n 2, 1) := by decide +kernel
theorem d4_35 : decode prog_55_method_2_code 35 = .ok (.isub, 1) := by decide +kernel
theorem d4_36 : decode prog_55_method_2_code 36 = .ok (.invokestatic 37, 3) := by decide +kernel
theorem d4_39 : decode prog_55_method_2_code 39 = .ok (.ireturn, 1) := by decide +kernel
abbrev mN_4 : MethodName := ⟨"fieldglass/spec/Range", "firstIn", "(I)I"⟩
theorem d6_0 : decode method_3_code 0 = .ok (.iload_n 0, 1) := by decide +kernel
theorem d6_1 : decode method_3_code 1 = .ok (.iconst (-1), 1) := by decide +kernel
theorem d6_2 : decode method_3_code 2 = .ok (.if_icmp .eq 5, 3) := by decide +kernel
theorem d6_5 : decode method_3_code 5 = .ok (.iload_n 0, 1) := by decide +kernel
theorem d6_6 : decode method_3_code 6 = .ok (.ireturn, 1) := by decide +kernel
theorem d6_7 : decode method_3_code 7 = .ok (.iload_n 1, 1) := by decide +kernel
theorem d6_8 : decode method_3_code 8 = .ok (.iconst (-1), 1) := by decide +kernel
theorem d6_9 : decode method_3_code 9 = .ok (.if_icmp .ne 7, 3) := by decide +kernel
theorem d6_12 : decode method_3_code 12 = .ok (.lconst 1, 1) := by decide +kernel
theorem d6_13 : decode method_3_code 13 = .ok (.goto 7, 3) := by decide +kernel
theorem d6_16 : decode method_3_code 16 = .ok (.iload_n 1, 1) := by decide +kernel
theorem d6_17 : decode method_3_code 17 = .ok (.i2l, 1) := by decide +kernel
theorem d6_18 : decode method_3_code 18 = .ok (.lconst 1, 1) := by decide +kernel
theorem d6_19 : decode method_3_code 19 = .ok (.ladd, 1) := by decide +kernel
theorem d6_20 : decode method_3_code 20 = .ok (.lstore_n 3, 1) := by decide +kernel
theorem d6_21 : decode method_3_code 21 = .ok (.iload_n 2, 1) := by decide +kernel
theorem d6_22 : decode method_3_code 22 = .ok (.i2l, 1) := by decide +kernel
theorem d6_23 : decode method_3_code 23 = .ok (.lstore 5, 2) := by decide +kernel
theorem d6_25 : decode method_3_code 25 = .ok (.lload 5, 2) := by decide +kernel
theorem d6_27 : decode method_3_code 27 = .ok (.lload_n 3, 1) := by decide +kernel
theorem d6_28 : decode method_3_code 28 = .ok (.lcmp, 1) := by decide +kernel
theorem d6_29 : decode method_3_code 29 = .ok (.ifCond .lt 9, 3) := by decide +kernel
theorem d6_32 : decode method_3_code 32 = .ok (.lload 5, 2) := by decide +kernel
theorem d6_34 : decode method_3_code 34 = .ok (.lload_n 3, 1) := by decide +kernel
theorem d6_35 : decode method_3_code 35 = .ok (.lsub, 1) := by decide +kernel
theorem d6_36 : decode method_3_code 36 = .ok (.l2i, 1) := by decide +kernel
theorem d6_37 : decode method_3_code 37 = .ok (.ireturn, 1) := by decide +kernel
theorem d6_38 : decode method_3_code 38 = .ok (.iconst 0, 1) := by decide +kernel
theorem d6_39 : decode method_3_code 39 = .ok (.ireturn, 1) := by decide +kernel
theorem pn_2 : plainName "fieldglass/spec/RangeFirstInPinLaw" = true := by first | (simp [plainName, overriddenIn]; done) | decide +kernel
abbrev mN_6 : MethodName := ⟨"fieldglass/spec/RangeFirstInPinLaw", "expected", "(III)I"⟩
theorem pd_2 : parseMethodDescriptor "(II)V" = some ⟨[.int, .int], none⟩ := by decide +kernel
theorem pd_3 : parseMethodDescriptor "(I)I" = some ⟨[.int], some .int⟩ := by decide +kernel
theorem pd_4 : parseMethodDescriptor "(III)I" = some ⟨[.int, .int, .int], some .int⟩ := by decide +kernel
theorem ef_2 (m : MethodId) (x0 : Addr) : entryFrame m #[(.ref x0)] 1 = mkF m 0 #[.val (.ref x0)] [] := by first | (simp [entryFrame, mkF, argsToLocals, Value.category]; done) | rfl
def Q2 (Z : State) (a : Addr) (h0 : Heap) (n0 : Nat) (v : Option Value) (h : Heap) (L : List Loc) : Prop := v = none ∧ Fr n0 L ∧ h = h0
set_option maxRecDepth 65536 in
set_option maxHeartbeats 40000000 in
theorem rm2 (l : Launch) (Z : State) (a0 : Array Value) (hw : ∀ d ∈ tables_1, d.before a0 Z = true) (ws : List Jvm.Cond) (a : Addr) (h0 : Heap) (n0 : Nat) (Z0 : n0 ≤ h0.size) :
    CT l mN_2 jdk_30_method_1_code 1 none ws ({ frames := 1, cells := 0, slots := 0, locals := 12 } : Room) #[(.ref a)] Z h0 (Q2 Z a h0 n0) := by
  refine body_of (plainFor_of_name pn_0) ?_
  intro p e s m below meth c s₁ hx dB hret hlk hml hown0 hnm X0 e0 hZ
  have hown : s.vm.findClass cN_0 = some m.cls := hown0
  have N0 := Fr.nil n0
  rw [ef_2]
  show Wk p e below (FN s (Q2 Z a h0 n0) 0 0) s₁ (mkF m 0 #[.val (.ref a)] [])
  refine w_aloadN X0 hx (.ref a) (dB d2_0) 1 rfl rfl rfl ?_
  refine w_objinit X0 hx hZ hown e0 (tw_12 hw) (tw_13 hw) (tw_14 hw) (by rw [hml]; rfl) (by decide) 0 rfl (by decide) (dB d2_1) 4 rfl (fun T1 X1 e1 => ?_)
  refine w_ret0 X1 hx hlk hret (dB d2_4) (by decide) (by decide) ?_
  rw [e1]
  exact ⟨rfl, N0, rfl⟩
theorem ef_1 (m : MethodId) (x0 : Addr) (x1 : Int32) (x2 : Int32) : entryFrame m #[(.ref x0), (.int x1), (.int x2)] 3 = mkF m 0 #[.val (.ref x0), .val (.int x1), .val (.int x2)] [] := by first | (simp [entryFrame, mkF, argsToLocals, Value.category]; done) | rfl
def Q1 (Z : State) (a : Addr) (fi : Int32) (la : Int32) (h0 : Heap) (n0 : Nat) (v : Option Value) (h : Heap) (L : List Loc) : Prop := v = none ∧ Fr n0 L ∧ Keep h0 h [a] ∧ Fld Z h a cN_1 "first" "I" (.int fi) ∧ Fld Z h a cN_1 "last" "I" (.int la)
set_option maxRecDepth 65536 in
set_option maxHeartbeats 40000000 in
theorem rm1 (l : Launch) (Z : State) (a0 : Array Value) (hw : ∀ d ∈ tables_1, d.before a0 Z = true) (ws : List Jvm.Cond) (a : Addr) (fi : Int32) (la : Int32) (h0 : Heap) (n0 : Nat) (Z0 : n0 ≤ h0.size) (E_a : Exa Z h0 a cN_1) (F_first_a : Fld Z h0 a cN_1 "first" "I" (.int (0 : Int32))) (F_last_a : Fld Z h0 a cN_1 "last" "I" (.int (0 : Int32))) (g_a : n0 ≤ a) (p0 : -1 ≤ fi.toInt) (p1 : -1 ≤ la.toInt) :
    CT l mN_1 prog_55_method_1_code 3 none ws ({ frames := 2, cells := 0, slots := 0, locals := 24 } : Room) #[(.ref a), (.int fi), (.int la)] Z h0 (Q1 Z a fi la h0 n0) := by
  refine body_of (plainFor_of_name pn_1) ?_
  intro p e s m below meth c s₁ hx dB hret hlk hml hown0 hnm X0 e0 hZ
  have hown : s.vm.findClass cN_1 = some m.cls := hown0
  have N0 := Fr.nil n0
  rw [ef_1]
  show Wk p e below (FN s (Q1 Z a fi la h0 n0) 0 0) s₁ (mkF m 0 #[.val (.ref a), .val (.int fi), .val (.int la)] [])
  have r_fi := rng32 fi
  have r_la := rng32 la
  refine w_aloadN X0 hx (.ref a) (dB d1_0) 1 rfl rfl rfl ?_
  refine w_init X0 hx hZ rfl hown e0 (rm2 l Z a0 hw [] a h0 n0 Z0 ) (tw_7 hw) (tw_8 hw) (tw_10 hw) (tw_11 hw) (by decide) (by rw [hml]; rfl) a [] [] (lenOf pd_0 rfl) rfl rfl (by decide) 0 rfl (by decide) (by decide) (by decide) (dB d1_1) 4 rfl (fun r2 T2 L2 X2 q2 => ?_)
  obtain ⟨rfl, Nq2, eq2⟩ := q2
  have N2 := Fr.app N0 Nq2
  dsimp only [Option.toList_some, Option.toList_none, List.cons_append, List.nil_append]
  refine w_iloadN X2 hx fi (dB d1_4) 5 rfl rfl ?_
  refine w_iconst X2 hx (dB d1_5) 6 rfl (-1 : Int32) (by decide) ?_
  refine w_icmp_lt X2 hx fi.toInt (-1) rfl (by decide) (dB d1_6) 14 9 (fun c3 => ?_) (fun c3 => ?_)
  ·exfalso; omega
  ·refine w_iloadN X2 hx la (dB d1_9) 10 rfl rfl ?_
   refine w_iconst X2 hx (dB d1_10) 11 rfl (-1 : Int32) (by decide) ?_
   refine w_icmp_ge X2 hx la.toInt (-1) rfl (by decide) (dB d1_11) 45 14 (fun c4 => ?_) (fun c4 => ?_)
   ·refine w_aloadN X2 hx (.ref a) (dB d1_45) 46 rfl rfl rfl ?_
    refine w_iloadN X2 hx fi (dB d1_46) 47 rfl rfl ?_
    refine w_putF X2 hx hZ hown eq2 (host := "") (Or.inl (tw_15 hw)) Via.refl F_first_a E_a (Or.inr ⟨(tw_16 hw), rfl, hnm⟩) (tw_2 hw) (ty := .int) (by decide) rfl rfl (dB d1_47) 50 rfl (fun T5 h5 X5 e5 W5 => ?_)
    have F6 : Exa Z h5 a cN_1 := E_a.wr W5
    have F7 : Fld Z h5 a cN_1 "first" "I" (.int fi) := F_first_a.same W5
    have F8 : Fld Z h5 a cN_1 "last" "I" (.int (0 : Int32)) := F_last_a.other W5 (Or.inr (slot_ne (Or.inr (tw_18 hw)) (Or.inr (tw_16 hw)) (by decide) (t := .int) (t' := .int) (by decide) (by decide)))
    have Z5 : n0 ≤ h5.size := by rw [W5.size]; exact Z0
    have K5 : Keep h0 h5 [a] := (Keep.refl h0 [a]).wr W5 (Or.inl (List.mem_of_getElem? (i := 0) rfl))
    have N5 := Fr.snoc X5 N2 g_a
    refine w_aloadN X5 hx (.ref a) (dB d1_50) 51 rfl rfl rfl ?_
    refine w_iloadN X5 hx la (dB d1_51) 52 rfl rfl ?_
    refine w_putF X5 hx hZ hown e5 (host := "") (Or.inl (tw_17 hw)) Via.refl F8 F6 (Or.inr ⟨(tw_18 hw), rfl, hnm⟩) (tw_2 hw) (ty := .int) (by decide) rfl rfl (dB d1_52) 55 rfl (fun T9 h9 X9 e9 W9 => ?_)
    have F10 : Exa Z h9 a cN_1 := F6.wr W9
    have F11 : Fld Z h9 a cN_1 "first" "I" (.int fi) := F7.other W9 (Or.inr (slot_ne (Or.inr (tw_16 hw)) (Or.inr (tw_18 hw)) (by decide) (t := .int) (t' := .int) (by decide) (by decide)))
    have F12 : Fld Z h9 a cN_1 "last" "I" (.int la) := F8.same W9
    have Z9 : n0 ≤ h9.size := by rw [W9.size]; exact Z5
    have K9 : Keep h0 h9 [a] := K5.wr W9 (Or.inl (List.mem_of_getElem? (i := 0) rfl))
    have N9 := Fr.snoc X9 N5 g_a
    refine w_ret0 X9 hx hlk hret (dB d1_55) (by decide) (by decide) ?_
    rw [e9]
    exact ⟨rfl, N9, K9, F11, F12⟩
   ·exfalso; omega
theorem ef_5 (m : MethodId) (x0 : Int32) (x1 : Int32) : entryFrame m #[(.int x0), (.int x1)] 2 = mkF m 0 #[.val (.int x0), .val (.int x1)] [] := by first | (simp [entryFrame, mkF, argsToLocals, Value.category]; done) | rfl
def Q5 (Z : State) (x : Int32) (y : Int32) (h0 : Heap) (n0 : Nat) (v : Option Value) (h : Heap) (L : List Loc) : Prop := ∃ z : Int32, v = some (.int z) ∧ ((y.toInt ≤ x.toInt ∧ z.toInt = x.toInt) ∨ (x.toInt < y.toInt ∧ z.toInt = y.toInt)) ∧ Fr n0 L ∧ h = h0
set_option maxRecDepth 65536 in
set_option maxHeartbeats 40000000 in
theorem rm5 (l : Launch) (Z : State) (a0 : Array Value) (hw : ∀ d ∈ tables_1, d.before a0 Z = true) (ws : List Jvm.Cond) (x : Int32) (y : Int32) (h0 : Heap) (n0 : Nat) (Z0 : n0 ≤ h0.size) :
    CT l mN_5 jdk_29_method_65_code 2 (some .int) ws ({ frames := 0, cells := 0, slots := 0, locals := 0 } : Room) #[(.int x), (.int y)] Z h0 (Q5 Z x y h0 n0) := by
  refine body_of (Jvm.Free.JP.mathPlain rfl (by decide +kernel)) ?_
  intro p e s m below meth c s₁ hx dB hret hlk hml hown0 hnm X0 e0 hZ
  have hown : s.vm.findClass cN_2 = some m.cls := hown0
  have N0 := Fr.nil n0
  rw [ef_5]
  show Wk p e below (FN s (Q5 Z x y h0 n0) 0 0) s₁ (mkF m 0 #[.val (.int x), .val (.int y)] [])
  have r_x := rng32 x
  have r_y := rng32 y
  refine w_iloadN X0 hx x (dB d5_0) 1 rfl rfl ?_
  refine w_iloadN X0 hx y (dB d5_1) 2 rfl rfl ?_
  refine w_icmp_lt X0 hx x.toInt y.toInt rfl rfl (dB d5_2) 9 5 (fun c13 => ?_) (fun c13 => ?_)
  ·refine w_iloadN X0 hx y (dB d5_9) 10 rfl rfl ?_
   refine w_retI X0 hx hlk hret (dB d5_10) (by decide) (by decide) ?_
   rw [e0]
   exact ⟨y, rfl, by have hz : y.toInt = y.toInt := rfl; omega, N0, rfl⟩
  ·refine w_iloadN X0 hx x (dB d5_5) 6 rfl rfl ?_
   refine w_goto X0 hx (dB d5_6) 10 ?_
   refine w_retI X0 hx hlk hret (dB d5_10) (by decide) (by decide) ?_
   rw [e0]
   exact ⟨x, rfl, by have hz : x.toInt = x.toInt := rfl; omega, N0, rfl⟩
theorem ef_4 (m : MethodId) (x0 : Addr) (x1 : Int32) : entryFrame m #[(.ref x0), (.int x1)] 3 = mkF m 0 #[.val (.ref x0), .val (.int x1), .unset] [] := by first | (simp [entryFrame, mkF, argsToLocals, Value.category]; done) | rfl
def Q4 (Z : State) (a : Addr) (sz : Int32) (fi : Int32) (la : Int32) (h0 : Heap) (n0 : Nat) (v : Option Value) (h : Heap) (L : List Loc) : Prop := ∃ z : Int32, v = some (.int z) ∧ ((fi.toInt ≠ -1 ∧ z.toInt = fi.toInt) ∨ (fi.toInt = -1 ∧ la.toInt = -1 ∧ ((1 ≤ sz.toInt ∧ z.toInt = sz.toInt - 1) ∨ (sz.toInt < 1 ∧ z.toInt = 0))) ∨ (fi.toInt = -1 ∧ la.toInt ≠ -1 ∧ ((la.toInt + 1 ≤ sz.toInt ∧ z.toInt = sz.toInt - 1 - la.toInt) ∨ (sz.toInt < la.toInt + 1 ∧ z.toInt = 0)))) ∧ Fr n0 L ∧ h = h0
set_option maxRecDepth 65536 in
set_option maxHeartbeats 40000000 in
theorem rm4 (l : Launch) (Z : State) (a0 : Array Value) (hw : ∀ d ∈ tables_1, d.before a0 Z = true) (ws : List Jvm.Cond) (a : Addr) (sz : Int32) (fi : Int32) (la : Int32) (h0 : Heap) (n0 : Nat) (Z0 : n0 ≤ h0.size) (F_first_a : Fld Z h0 a cN_1 "first" "I" (.int fi)) (F_last_a : Fld Z h0 a cN_1 "last" "I" (.int la)) (p0 : -1 ≤ fi.toInt) (p1 : -1 ≤ la.toInt) (p2 : 0 ≤ sz.toInt) :
    CT l mN_4 prog_55_method_2_code 3 (some .int) ws ({ frames := 1, cells := 0, slots := 0, locals := 13 } : Room) #[(.ref a), (.int sz)] Z h0 (Q4 Z a sz fi la h0 n0) := by
  refine body_of (plainFor_of_name pn_1) ?_
  intro p e s m below meth c s₁ hx dB hret hlk hml hown0 hnm X0 e0 hZ
  have hown : s.vm.findClass cN_1 = some m.cls := hown0
  have N0 := Fr.nil n0
  rw [ef_4]
  show Wk p e below (FN s (Q4 Z a sz fi la h0 n0) 0 0) s₁ (mkF m 0 #[.val (.ref a), .val (.int sz), .unset] [])
  have r_sz := rng32 sz
  have r_fi := rng32 fi
  have r_la := rng32 la
  refine w_aloadN X0 hx (.ref a) (dB d4_0) 1 rfl rfl rfl ?_
  refine w_getF X0 hx hZ hown e0 (host := "") (Or.inl (tw_15 hw)) Via.refl F_first_a (dB d4_1) 4 rfl (fun T14 X14 e14 => ?_)
  refine w_iconst X14 hx (dB d4_4) 5 rfl (-1 : Int32) (by decide) ?_
  refine w_icmp_eq X14 hx fi.toInt (-1) rfl (by decide) (dB d4_5) 13 8 (fun c15 => ?_) (fun c15 => ?_)
  ·refine w_aloadN X14 hx (.ref a) (dB d4_13) 14 rfl rfl rfl ?_
   refine w_getF X14 hx hZ hown e14 (host := "") (Or.inl (tw_17 hw)) Via.refl F_last_a (dB d4_14) 17 rfl (fun T16 X16 e16 => ?_)
   refine w_iconst X16 hx (dB d4_17) 18 rfl (-1 : Int32) (by decide) ?_
   refine w_icmp_ne X16 hx la.toInt (-1) rfl (by decide) (dB d4_18) 25 21 (fun c17 => ?_) (fun c17 => ?_)
   ·refine w_aloadN X16 hx (.ref a) (dB d4_25) 26 rfl rfl rfl ?_
    refine w_getF X16 hx hZ hown e16 (host := "") (Or.inl (tw_17 hw)) Via.refl F_last_a (dB d4_26) 29 rfl (fun T18 X18 e18 => ?_)
    refine w_istoreN X18 hx (dB d4_29) 30 rfl #[.val (.ref a), .val (.int sz), .val (.int la)] rfl ?_
    refine w_iconst X18 hx (dB d4_30) 31 rfl (0 : Int32) (by decide) ?_
    refine w_iloadN X18 hx sz (dB d4_31) 32 rfl rfl ?_
    refine w_iconst X18 hx (dB d4_32) 33 rfl (1 : Int32) (by decide) ?_
    obtain ⟨v19, e19⟩ : ∃ z : Int32, z = sz - (1 : Int32) := ⟨_, rfl⟩
    have n19 : v19.toInt = sz.toInt - 1 := by rw [e19]; exact subX rfl (by decide) (by omega) (by omega)
    refine w_isub X18 hx (dB d4_33) 34 rfl e19 ?_
    refine w_iloadN X18 hx la (dB d4_34) 35 rfl rfl ?_
    obtain ⟨v20, e20⟩ : ∃ z : Int32, z = v19 - la := ⟨_, rfl⟩
    have n20 : v20.toInt = v19.toInt - la.toInt := by rw [e20]; exact subX rfl rfl (by omega) (by omega)
    refine w_isub X18 hx (dB d4_35) 36 rfl e20 ?_
    refine w_callS X18 hx hZ hown e18 (rm5 l Z a0 hw [] (0 : Int32) v20 h0 n0 Z0 ) (tw_24 hw) (tw_25 hw) (tw_26 hw) (tw_27 hw) (by decide) (by rw [hml]; rfl) [(.int (0 : Int32)), (.int v20)] [] (lenOf pd_1 rfl) rfl rfl (by decide) 0 rfl (by decide) (by decide) (by decide) (dB d4_36) 39 rfl (fun r21 T21 L21 X21 q21 => ?_)
    obtain ⟨z21, rfl, f21, Nq21, eq21⟩ := q21
    have N21 := Fr.app N0 Nq21
    try simp only [show ((0 : Int32)).toInt = 0 from by decide] at f21
    dsimp only [Option.toList_some, Option.toList_none, List.cons_append, List.nil_append]
    refine w_retI X21 hx hlk hret (dB d4_39) (by decide) (by decide) ?_
    rw [eq21]
    exact ⟨z21, rfl, by have hz : z21.toInt = z21.toInt := rfl; omega, N21, rfl⟩
   ·refine w_iconst X16 hx (dB d4_21) 22 rfl (0 : Int32) (by decide) ?_
    refine w_goto X16 hx (dB d4_22) 29 ?_
    refine w_istoreN X16 hx (dB d4_29) 30 rfl #[.val (.ref a), .val (.int sz), .val (.int (0 : Int32))] rfl ?_
    refine w_iconst X16 hx (dB d4_30) 31 rfl (0 : Int32) (by decide) ?_
    refine w_iloadN X16 hx sz (dB d4_31) 32 rfl rfl ?_
    refine w_iconst X16 hx (dB d4_32) 33 rfl (1 : Int32) (by decide) ?_
    obtain ⟨v22, e22⟩ : ∃ z : Int32, z = sz - (1 : Int32) := ⟨_, rfl⟩
    have n22 : v22.toInt = sz.toInt - 1 := by rw [e22]; exact subX rfl (by decide) (by omega) (by omega)
    refine w_isub X16 hx (dB d4_33) 34 rfl e22 ?_
    refine w_iloadN X16 hx (0 : Int32) (dB d4_34) 35 rfl rfl ?_
    obtain ⟨v23, e23⟩ : ∃ z : Int32, z = v22 - (0 : Int32) := ⟨_, rfl⟩
    have n23 : v23.toInt = v22.toInt - 0 := by rw [e23]; exact subX rfl (by decide) (by omega) (by omega)
    refine w_isub X16 hx (dB d4_35) 36 rfl e23 ?_
    refine w_callS X16 hx hZ hown e16 (rm5 l Z a0 hw [] (0 : Int32) v23 h0 n0 Z0 ) (tw_24 hw) (tw_25 hw) (tw_26 hw) (tw_27 hw) (by decide) (by rw [hml]; rfl) [(.int (0 : Int32)), (.int v23)] [] (lenOf pd_1 rfl) rfl rfl (by decide) 0 rfl (by decide) (by decide) (by decide) (dB d4_36) 39 rfl (fun r24 T24 L24 X24 q24 => ?_)
    obtain ⟨z24, rfl, f24, Nq24, eq24⟩ := q24
    have N24 := Fr.app N0 Nq24
    try simp only [show ((0 : Int32)).toInt = 0 from by decide] at f24
    dsimp only [Option.toList_some, Option.toList_none, List.cons_append, List.nil_append]
    refine w_retI X24 hx hlk hret (dB d4_39) (by decide) (by decide) ?_
    rw [eq24]
    exact ⟨z24, rfl, by have hz : z24.toInt = z24.toInt := rfl; omega, N24, rfl⟩
  ·refine w_aloadN X14 hx (.ref a) (dB d4_8) 9 rfl rfl rfl ?_
   refine w_getF X14 hx hZ hown e14 (host := "") (Or.inl (tw_15 hw)) Via.refl F_first_a (dB d4_9) 12 rfl (fun T25 X25 e25 => ?_)
   refine w_retI X25 hx hlk hret (dB d4_12) (by decide) (by decide) ?_
   rw [e25]
   exact ⟨fi, rfl, by have hz : fi.toInt = fi.toInt := rfl; omega, N0, rfl⟩
theorem ef_6 (m : MethodId) (x0 : Int32) (x1 : Int32) (x2 : Int32) : entryFrame m #[(.int x0), (.int x1), (.int x2)] 7 = mkF m 0 #[.val (.int x0), .val (.int x1), .val (.int x2), .unset, .unset, .unset, .unset] [] := by first | (simp [entryFrame, mkF, argsToLocals, Value.category]; done) | rfl
def Q6 (Z : State) (fi : Int32) (la : Int32) (sz : Int32) (h0 : Heap) (n0 : Nat) (v : Option Value) (h : Heap) (L : List Loc) : Prop := ∃ z : Int32, v = some (.int z) ∧ ((fi.toInt ≠ -1 ∧ z.toInt = fi.toInt) ∨ (fi.toInt = -1 ∧ la.toInt = -1 ∧ ((1 ≤ sz.toInt ∧ z.toInt = sz.toInt - 1) ∨ (sz.toInt < 1 ∧ z.toInt = 0))) ∨ (fi.toInt = -1 ∧ la.toInt ≠ -1 ∧ ((la.toInt + 1 ≤ sz.toInt ∧ z.toInt = sz.toInt - 1 - la.toInt) ∨ (sz.toInt < la.toInt + 1 ∧ z.toInt = 0)))) ∧ Fr n0 L ∧ h = h0
set_option maxRecDepth 65536 in
set_option maxHeartbeats 40000000 in
theorem rm6 (l : Launch) (Z : State) (a0 : Array Value) (hw : ∀ d ∈ tables_1, d.before a0 Z = true) (ws : List Jvm.Cond) (fi : Int32) (la : Int32) (sz : Int32) (h0 : Heap) (n0 : Nat) (Z0 : n0 ≤ h0.size) (p0 : -1 ≤ fi.toInt) (p1 : -1 ≤ la.toInt) (p2 : 0 ≤ sz.toInt) :
    CT l mN_6 method_3_code 7 (some .int) ws ({ frames := 0, cells := 0, slots := 0, locals := 0 } : Room) #[(.int fi), (.int la), (.int sz)] Z h0 (Q6 Z fi la sz h0 n0) := by
  refine body_of (plainFor_of_name pn_2) ?_
  intro p e s m below meth c s₁ hx dB hret hlk hml hown0 hnm X0 e0 hZ
  have hown : s.vm.findClass cN_3 = some m.cls := hown0
  have N0 := Fr.nil n0
  rw [ef_6]
  show Wk p e below (FN s (Q6 Z fi la sz h0 n0) 0 0) s₁ (mkF m 0 #[.val (.int fi), .val (.int la), .val (.int sz), .unset, .unset, .unset, .unset] [])
  have r_fi := rng32 fi
  have r_la := rng32 la
  have r_sz := rng32 sz
  refine w_iloadN X0 hx fi (dB d6_0) 1 rfl rfl ?_
  refine w_iconst X0 hx (dB d6_1) 2 rfl (-1 : Int32) (by decide) ?_
  refine w_icmp_eq X0 hx fi.toInt (-1) rfl (by decide) (dB d6_2) 7 5 (fun c26 => ?_) (fun c26 => ?_)
  ·refine w_iloadN X0 hx la (dB d6_7) 8 rfl rfl ?_
   refine w_iconst X0 hx (dB d6_8) 9 rfl (-1 : Int32) (by decide) ?_
   refine w_icmp_ne X0 hx la.toInt (-1) rfl (by decide) (dB d6_9) 16 12 (fun c27 => ?_) (fun c27 => ?_)
   ·refine w_iloadN X0 hx la (dB d6_16) 17 rfl rfl ?_
    obtain ⟨v28, e28⟩ : ∃ z : Int64, z = la.toInt64 := ⟨_, rfl⟩
    have n28 : v28.toInt = la.toInt := by rw [e28]; exact i2lX rfl
    refine w_i2l X0 hx (dB d6_17) 18 rfl e28 ?_
    refine w_lconst X0 hx (dB d6_18) 19 rfl (1 : Int64) (by decide) ?_
    obtain ⟨v29, e29⟩ : ∃ z : Int64, z = v28 + (1 : Int64) := ⟨_, rfl⟩
    have n29 : v29.toInt = v28.toInt + 1 := by rw [e29]; exact laddX rfl (by decide) (by omega) (by omega)
    refine w_ladd X0 hx (dB d6_19) 20 rfl e29 ?_
    refine w_lstoreN X0 hx (dB d6_20) 21 rfl #[.val (.int fi), .val (.int la), .val (.int sz), .val (.long v29), .second, .unset, .unset] rfl ?_
    refine w_iloadN X0 hx sz (dB d6_21) 22 rfl rfl ?_
    obtain ⟨v30, e30⟩ : ∃ z : Int64, z = sz.toInt64 := ⟨_, rfl⟩
    have n30 : v30.toInt = sz.toInt := by rw [e30]; exact i2lX rfl
    refine w_i2l X0 hx (dB d6_22) 23 rfl e30 ?_
    refine w_lstore X0 hx (dB d6_23) 25 rfl #[.val (.int fi), .val (.int la), .val (.int sz), .val (.long v29), .second, .val (.long v30), .second] rfl ?_
    refine w_lload X0 hx v30 (dB d6_25) 27 rfl rfl ?_
    refine w_lloadN X0 hx v29 (dB d6_27) 28 rfl rfl ?_
    obtain ⟨v31, e31⟩ : ∃ z : Int32, z = lcmpW v30 v29 := ⟨_, rfl⟩
    have n31 : (v31.toInt = -1 ∧ v30.toInt < v29.toInt) ∨ (v31.toInt = 0 ∧ v30.toInt = v29.toInt) ∨ (v31.toInt = 1 ∧ v29.toInt < v30.toInt) := by rw [e31]; exact lcmpC _ _ rfl rfl
    refine w_lcmp X0 hx (dB d6_28) 29 rfl e31 ?_
    refine w_if_lt X0 hx v31.toInt rfl (dB d6_29) 38 32 (fun c32 => ?_) (fun c32 => ?_)
    ·refine w_iconst X0 hx (dB d6_38) 39 rfl (0 : Int32) (by decide) ?_
     refine w_retI X0 hx hlk hret (dB d6_39) (by decide) (by decide) ?_
     rw [e0]
     exact ⟨(0 : Int32), rfl, by have hz : (0 : Int32).toInt = 0 := (by decide); omega, N0, rfl⟩
    ·refine w_lload X0 hx v30 (dB d6_32) 34 rfl rfl ?_
     refine w_lloadN X0 hx v29 (dB d6_34) 35 rfl rfl ?_
     obtain ⟨v33, e33⟩ : ∃ z : Int64, z = v30 - v29 := ⟨_, rfl⟩
     have n33 : v33.toInt = v30.toInt - v29.toInt := by rw [e33]; exact lsubX rfl rfl (by omega) (by omega)
     refine w_lsub X0 hx (dB d6_35) 36 rfl e33 ?_
     obtain ⟨v34, e34⟩ : ∃ z : Int32, z = v33.toInt32 := ⟨_, rfl⟩
     have n34 : v34.toInt = v33.toInt := by rw [e34]; exact l2iX rfl (by omega) (by omega)
     refine w_l2i X0 hx (dB d6_36) 37 rfl e34 ?_
     refine w_retI X0 hx hlk hret (dB d6_37) (by decide) (by decide) ?_
     rw [e0]
     exact ⟨v34, rfl, by have hz : v34.toInt = v34.toInt := rfl; omega, N0, rfl⟩
   ·refine w_lconst X0 hx (dB d6_12) 13 rfl (1 : Int64) (by decide) ?_
    refine w_goto X0 hx (dB d6_13) 20 ?_
    refine w_lstoreN X0 hx (dB d6_20) 21 rfl #[.val (.int fi), .val (.int la), .val (.int sz), .val (.long (1 : Int64)), .second, .unset, .unset] rfl ?_
    refine w_iloadN X0 hx sz (dB d6_21) 22 rfl rfl ?_
    obtain ⟨v35, e35⟩ : ∃ z : Int64, z = sz.toInt64 := ⟨_, rfl⟩
    have n35 : v35.toInt = sz.toInt := by rw [e35]; exact i2lX rfl
    refine w_i2l X0 hx (dB d6_22) 23 rfl e35 ?_
    refine w_lstore X0 hx (dB d6_23) 25 rfl #[.val (.int fi), .val (.int la), .val (.int sz), .val (.long (1 : Int64)), .second, .val (.long v35), .second] rfl ?_
    refine w_lload X0 hx v35 (dB d6_25) 27 rfl rfl ?_
    refine w_lloadN X0 hx (1 : Int64) (dB d6_27) 28 rfl rfl ?_
    obtain ⟨v36, e36⟩ : ∃ z : Int32, z = lcmpW v35 (1 : Int64) := ⟨_, rfl⟩
    have n36 : (v36.toInt = -1 ∧ v35.toInt < 1) ∨ (v36.toInt = 0 ∧ v35.toInt = 1) ∨ (v36.toInt = 1 ∧ 1 < v35.toInt) := by rw [e36]; exact lcmpC _ _ rfl (by decide)
    refine w_lcmp X0 hx (dB d6_28) 29 rfl e36 ?_
    refine w_if_lt X0 hx v36.toInt rfl (dB d6_29) 38 32 (fun c37 => ?_) (fun c37 => ?_)
    ·refine w_iconst X0 hx (dB d6_38) 39 rfl (0 : Int32) (by decide) ?_
     refine w_retI X0 hx hlk hret (dB d6_39) (by decide) (by decide) ?_
     rw [e0]
     exact ⟨(0 : Int32), rfl, by have hz : (0 : Int32).toInt = 0 := (by decide); omega, N0, rfl⟩
    ·refine w_lload X0 hx v35 (dB d6_32) 34 rfl rfl ?_
     refine w_lloadN X0 hx (1 : Int64) (dB d6_34) 35 rfl rfl ?_
     obtain ⟨v38, e38⟩ : ∃ z : Int64, z = v35 - (1 : Int64) := ⟨_, rfl⟩
     have n38 : v38.toInt = v35.toInt - 1 := by rw [e38]; exact lsubX rfl (by decide) (by omega) (by omega)
     refine w_lsub X0 hx (dB d6_35) 36 rfl e38 ?_
     obtain ⟨v39, e39⟩ : ∃ z : Int32, z = v38.toInt32 := ⟨_, rfl⟩
     have n39 : v39.toInt = v38.toInt := by rw [e39]; exact l2iX rfl (by omega) (by omega)
     refine w_l2i X0 hx (dB d6_36) 37 rfl e39 ?_
     refine w_retI X0 hx hlk hret (dB d6_37) (by decide) (by decide) ?_
     rw [e0]
     exact ⟨v39, rfl, by have hz : v39.toInt = v39.toInt := rfl; omega, N0, rfl⟩
  ·refine w_iloadN X0 hx fi (dB d6_5) 6 rfl rfl ?_
   refine w_retI X0 hx hlk hret (dB d6_6) (by decide) (by decide) ?_
   rw [e0]
   exact ⟨fi, rfl, by have hz : fi.toInt = fi.toInt := rfl; omega, N0, rfl⟩
theorem ef_0 (m : MethodId) (x0 : Int32) (x1 : Int32) (x2 : Int32) (x3 : Int32) : entryFrame m #[(.int x0), (.int x1), (.int x2), (.int x3)] maxLocals = mkF m 0 #[.val (.int x0), .val (.int x1), .val (.int x2), .val (.int x3), .unset, .unset, .unset, .unset, .unset] [] := by first | (simp [entryFrame, mkF, argsToLocals, Value.category, maxLocals]; done) | rfl
def Q0 (Z : State) (a : Int32) (b : Int32) (sz : Int32) (mode : Int32) (h0 : Heap) (n0 : Nat) (v : Option Value) (h : Heap) (L : List Loc) : Prop := v = some (.int 1) ∧ Fr n0 L
set_option maxRecDepth 65536 in
set_option maxHeartbeats 40000000 in
theorem rm0 (l : Launch) (Z : State) (a0 : Array Value) (hw : ∀ d ∈ tables_1, d.before a0 Z = true) (ws : List Jvm.Cond) (a : Int32) (b : Int32) (sz : Int32) (mode : Int32) (h0 : Heap) (n0 : Nat) (Z0 : n0 ≤ h0.size) :
    MetFree l x (head1 (Jvm.Cond.code x code maxLocals ret :: ws) room_1) (fun as_ U => as_ = #[(.int a), (.int b), (.int sz), (.int mode)] ∧ Z.Warmed39 U.vm ∧ U.heap = h0) (fun _ _ _ _ _ => True) (fun _ U o U' => ∃ v L, o = .returned v ∧ Q0 Z a b sz mode h0 n0 v U'.heap L ∧ FrameEnd U o U' L 1 2) := by
  refine body_of (plainFor_of_name pn_2) ?_
  intro p e s m below meth c s₁ hx dB hret hlk hml hown0 hnm X0 e0 hZ
  have hown : s.vm.findClass cN_3 = some m.cls := hown0
  have N0 := Fr.nil n0
  rw [ef_0]
  show Wk p e below (FN s (Q0 Z a b sz mode h0 n0) 1 2) s₁ (mkF m 0 #[.val (.int a), .val (.int b), .val (.int sz), .val (.int mode), .unset, .unset, .unset, .unset, .unset] [])
  have r_a := rng32 a
  have r_b := rng32 b
  have r_sz := rng32 sz
  have r_mode := rng32 mode
  refine w_iloadN X0 hx mode (dB at_0) 1 rfl rfl ?_
  refine w_iconst X0 hx (dB at_1) 2 rfl (1 : Int32) (by decide) ?_
  obtain ⟨v40, e40⟩ : ∃ z : Int32, z = mode &&& (1 : Int32) := ⟨_, rfl⟩
  have n40 : v40.toInt = mode.toInt % 2 := by rw [e40]; exact maskX 1 rfl (by decide) (by decide)
  refine w_iand X0 hx (dB at_2) 3 rfl e40 ?_
  have J41 : ∀ (j41_0 : Int32), (-1 ≤ j41_0.toInt) → Wk p e below (FN s (Q0 Z a b sz mode h0 n0) 1 2) s₁ (mkF m 14 #[.val (.int a), .val (.int b), .val (.int sz), .val (.int mode), .unset, .unset, .unset, .unset, .unset] [(.int j41_0)]) := by
   intro j41_0 f41
   refine w_istore X0 hx (dB at_14) 16 rfl #[.val (.int a), .val (.int b), .val (.int sz), .val (.int mode), .val (.int j41_0), .unset, .unset, .unset, .unset] rfl ?_
   refine w_iloadN X0 hx mode (dB at_16) 17 rfl rfl ?_
   refine w_iconst X0 hx (dB at_17) 18 rfl (1 : Int32) (by decide) ?_
   obtain ⟨v42, e42⟩ : ∃ z : Int32, z = mode >>> ((1 : Int32) &&& 31) := ⟨_, rfl⟩
   have n42 : v42.toInt = mode.toInt / 2 := by rw [e42]; exact ishrX 1 rfl (by decide)
   refine w_ishr X0 hx (dB at_18) 19 rfl e42 ?_
   refine w_iconst X0 hx (dB at_19) 20 rfl (1 : Int32) (by decide) ?_
   obtain ⟨v43, e43⟩ : ∃ z : Int32, z = v42 &&& (1 : Int32) := ⟨_, rfl⟩
   have n43 : v43.toInt = v42.toInt % 2 := by rw [e43]; exact maskX 1 rfl (by decide) (by decide)
   refine w_iand X0 hx (dB at_20) 21 rfl e43 ?_
   have J44 : ∀ (j44_0 : Int32), (-1 ≤ j44_0.toInt) → Wk p e below (FN s (Q0 Z a b sz mode h0 n0) 1 2) s₁ (mkF m 32 #[.val (.int a), .val (.int b), .val (.int sz), .val (.int mode), .val (.int j41_0), .unset, .unset, .unset, .unset] [(.int j44_0)]) := by
    intro j44_0 f44
    refine w_istore X0 hx (dB at_32) 34 rfl #[.val (.int a), .val (.int b), .val (.int sz), .val (.int mode), .val (.int j41_0), .val (.int j44_0), .unset, .unset, .unset] rfl ?_
    refine w_iloadN X0 hx sz (dB at_34) 35 rfl rfl ?_
    refine w_ldc X0 hx hZ hown (tw_0 hw) (dB at_35) 37 rfl ?_
    obtain ⟨v45, e45⟩ : ∃ z : Int32, z = sz &&& (2147483647 : Int32) := ⟨_, rfl⟩
    have n45 : v45.toInt = sz.toInt % 2147483648 := by rw [e45]; exact maskX 31 rfl (by decide) (by decide)
    refine w_iand X0 hx (dB at_37) 38 rfl e45 ?_
    refine w_istore X0 hx (dB at_38) 40 rfl #[.val (.int a), .val (.int b), .val (.int sz), .val (.int mode), .val (.int j41_0), .val (.int j44_0), .val (.int v45), .unset, .unset] rfl ?_
    refine w_new X0 hx hZ hown e0 (tw_1 hw) (tw_2 hw) (tw_3 hw) (by decide) (by decide) (dB at_40) 43 rfl (fun T46 h46 a46 X46 e46 g46 E46 A46 D46 => ?_)
    have g_a46 : n0 ≤ a46 := Nat.le_trans Z0 (Nat.le_of_eq g46.symm)
    have s_a46 : h0.size ≤ a46 := Nat.le_trans (Keep.refl h0 []).1 (Nat.le_of_eq g46.symm)
    have Z46 : n0 ≤ h46.size := Nat.le_trans Z0 E46.1
    have K46 : Keep h0 h46 [] := (Keep.refl h0 []).ext E46
    have F47 : Fld Z h46 a46 cN_1 "first" "I" (.int (0 : Int32)) := D46 (Or.inr (tw_16 hw)) (ty := .int) (by decide)
    have F48 : Fld Z h46 a46 cN_1 "last" "I" (.int (0 : Int32)) := D46 (Or.inr (tw_18 hw)) (ty := .int) (by decide)
    refine w_dup X46 hx (dB at_43) 44 rfl rfl ?_
    refine w_iload X46 hx j41_0 (dB at_44) 46 rfl rfl ?_
    refine w_iload X46 hx j44_0 (dB at_46) 48 rfl rfl ?_
    refine w_init X46 hx hZ rfl hown e46 (rm1 l Z a0 hw [] a46 j41_0 j44_0 h46 n0 Z46 A46 F47 F48 g_a46 (by omega) (by omega)) (tw_4 hw) (tw_5 hw) (tw_3 hw) (tw_6 hw) (by decide) (by rw [hml]; rfl) a46 [(.int j41_0), (.int j44_0)] [(.ref a46)] (lenOf pd_2 rfl) rfl rfl (by decide) 1 rfl (by decide) (by decide) (by decide) (dB at_48) 51 rfl (fun r49 T49 L49 X49 q49 => ?_)
    obtain ⟨rfl, Nq49, Kq49, G49_0, G49_1⟩ := q49
    have N49 := Fr.app N0 Nq49
    have F50 : Exa Z T49.heap a46 cN_1 := A46.keep Kq49
    have Z49 : n0 ≤ T49.heap.size := Nat.le_trans Z46 Kq49.1
    have K49 : Keep h0 T49.heap [] := K46.trans Kq49 (allS (Or.inr s_a46) all0)
    dsimp only [Option.toList_some, Option.toList_none, List.cons_append, List.nil_append]
    refine w_astore X49 hx (dB at_51) 53 rfl rfl #[.val (.int a), .val (.int b), .val (.int sz), .val (.int mode), .val (.int j41_0), .val (.int j44_0), .val (.int v45), .val (.ref a46), .unset] rfl ?_
    refine w_aload X49 hx (.ref a46) (dB at_53) 55 rfl rfl rfl ?_
    refine w_iload X49 hx v45 (dB at_55) 57 rfl rfl ?_
    refine w_virt X49 hx hZ hown rfl (rm4 l Z a0 hw [] a46 v45 j41_0 j44_0 T49.heap n0 Z49 G49_0 G49_1 (by omega) (by omega) (by omega)) (tw_19 hw) (tw_20 hw) (notFace_of_selects (args := #[]) (mvT hZ (tw_22 hw))) (tw_22 hw) (tw_21 hw) (tw_3 hw) (tw_23 hw) (by decide) a46 F50 (by rw [hml]; rfl) [(.int v45)] [] (lenOf pd_3 rfl) rfl rfl (by decide) 0 rfl (by decide) (by decide) (by decide) (dB at_57) 60 rfl (fun r51 T51 L51 X51 q51 => ?_)
    obtain ⟨z51, rfl, f51, Nq51, eq51⟩ := q51
    have N51 := Fr.app N49 Nq51
    dsimp only [Option.toList_some, Option.toList_none, List.cons_append, List.nil_append]
    refine w_istore X51 hx (dB at_60) 62 rfl #[.val (.int a), .val (.int b), .val (.int sz), .val (.int mode), .val (.int j41_0), .val (.int j44_0), .val (.int v45), .val (.ref a46), .val (.int z51)] rfl ?_
    refine w_iload X51 hx z51 (dB at_62) 64 rfl rfl ?_
    refine w_iload X51 hx j41_0 (dB at_64) 66 rfl rfl ?_
    refine w_iload X51 hx j44_0 (dB at_66) 68 rfl rfl ?_
    refine w_iload X51 hx v45 (dB at_68) 70 rfl rfl ?_
    refine w_callS X51 hx hZ hown eq51 (rm6 l Z a0 hw [] j41_0 j44_0 v45 T49.heap n0 Z49 (by omega) (by omega) (by omega)) (tw_28 hw) (tw_29 hw) (tw_30 hw) (tw_31 hw) (by decide) (by rw [hml]; rfl) [(.int j41_0), (.int j44_0), (.int v45)] [(.int z51)] (lenOf pd_4 rfl) rfl rfl (by decide) 1 rfl (by decide) (by decide) (by decide) (dB at_70) 73 rfl (fun r52 T52 L52 X52 q52 => ?_)
    obtain ⟨z52, rfl, f52, Nq52, eq52⟩ := q52
    have N52 := Fr.app N51 Nq52
    dsimp only [Option.toList_some, Option.toList_none, List.cons_append, List.nil_append]
    refine w_icmp_ne X52 hx z51.toInt z52.toInt rfl rfl (dB at_73) 80 76 (fun c53 => ?_) (fun c53 => ?_)
    ·exfalso; omega
    ·refine w_iconst X52 hx (dB at_76) 77 rfl (1 : Int32) (by decide) ?_
     refine w_goto X52 hx (dB at_77) 81 ?_
     refine w_retN X52 hx hlk (t := .boolean) hret (by simp) (dB at_81) (by decide) (by decide) ?_
     rw [eq52]
     exact ⟨rfl, N52⟩
   refine w_if_eq X0 hx v43.toInt rfl (dB at_21) 28 24 (fun c54 => ?_) (fun c54 => ?_)
   ·refine w_iloadN X0 hx b (dB at_28) 29 rfl rfl ?_
    refine w_ldc X0 hx hZ hown (tw_0 hw) (dB at_29) 31 rfl ?_
    obtain ⟨v55, e55⟩ : ∃ z : Int32, z = b &&& (2147483647 : Int32) := ⟨_, rfl⟩
    have n55 : v55.toInt = b.toInt % 2147483648 := by rw [e55]; exact maskX 31 rfl (by decide) (by decide)
    refine w_iand X0 hx (dB at_31) 32 rfl e55 ?_
    exact J44 v55 (by omega)
   ·refine w_iconst X0 hx (dB at_24) 25 rfl (-1 : Int32) (by decide) ?_
    refine w_goto X0 hx (dB at_25) 32 ?_
    exact J44 (-1 : Int32) (by have hz1 : (-1 : Int32).toInt = (-1) := (by decide); omega)
  refine w_if_eq X0 hx v40.toInt rfl (dB at_3) 10 6 (fun c56 => ?_) (fun c56 => ?_)
  ·refine w_iloadN X0 hx a (dB at_10) 11 rfl rfl ?_
   refine w_ldc X0 hx hZ hown (tw_0 hw) (dB at_11) 13 rfl ?_
   obtain ⟨v57, e57⟩ : ∃ z : Int32, z = a &&& (2147483647 : Int32) := ⟨_, rfl⟩
   have n57 : v57.toInt = a.toInt % 2147483648 := by rw [e57]; exact maskX 31 rfl (by decide) (by decide)
   refine w_iand X0 hx (dB at_13) 14 rfl e57 ?_
   exact J41 v57 (by omega)
  ·refine w_iconst X0 hx (dB at_6) 7 rfl (-1 : Int32) (by decide) ?_
   refine w_goto X0 hx (dB at_7) 14 ?_
   exact J41 (-1 : Int32) (by have hz1 : (-1 : Int32).toInt = (-1) := (by decide); omega)
set_option maxRecDepth 65536 in
set_option maxHeartbeats 40000000 in
theorem comes_1 {Post : Tables → Env → Array Value → State → Outcome → State → Prop} (hpost : ∀ tb e args s v u, (limb_1_1.after args s (.returned v) u = true ∧ limb_1_2.after args s (.returned v) u = true ∧ True) → FrameEnd s (.returned v) u (Jvm.fieldLocs frame_1_writes args s ++ Jvm.arrayLocs frame_1_arrays args s ++ Jvm.staticLocs frame_1_statics s) 16 128 → Post tb e args s (.returned v) u) :
    ArmFor flags0 classFile x code maxLocals ret World_1 tables_1 room_1 Calls_1 rest_1 Pre_1 Post := by
  intro l hfl _ _ p e ha hc hk s m args below hf hA hF happ hP
  obtain ⟨hcalls, hrest, hpre⟩ := hP
  obtain ⟨-, -, -, hnamed, -, -, -, hat⟩ := (Spec.applies_iff hf).mp happ
  obtain ⟨hg, hn⟩ := and_e (Cond.before_iff.mp (show (Jvm.Cond.and given_1 narrow_1).before args s = true from hpre))
  obtain ⟨gg1, gg2⟩ := and_e hg
  obtain ⟨gg3, gg4⟩ := and_e gg2
  obtain ⟨gg5, gg6⟩ := and_e gg4
  obtain ⟨gg7, gg8⟩ := and_e gg6
  obtain ⟨w0, w1, w2, w3, rfl⟩ : ∃ w0 w1 w2 w3 : Value, args = #[w0, w1, w2, w3] := by
    have hs : args.size = 4 := by simpa [Cond.value, given_1] using gg1
    obtain ⟨L⟩ := args
    match L, hs with
    | [w0, w1, w2, w3], _ => exact ⟨w0, w1, w2, w3, rfl⟩
  have hw := fun d (hd : d ∈ tables_1) => atoms_spec (ws := Jvm.Cond.code x code maxLocals ret :: tables_1) hat d (List.mem_cons_of_mem _ hd)
  have hfit : Fit s := fun {y c} hc i hi => by
    obtain ⟨ha, rfl⟩ := Array.getElem?_eq_some_iff.mp hc
    have q := List.all_eq_true.mp ((Array.all_eq_true_iff_forall_mem.mp hF) _ (Array.getElem_mem ha)) i (List.mem_range.mpr hi)
    simpa [Array.getElem?_eq_getElem hi] using q
  obtain ⟨i0, ei0⟩ := is_v gg3
  obtain rfl : w0 = (.int i0) := Option.some.inj ei0
  obtain ⟨i1, ei1⟩ := is_v gg5
  obtain rfl : w1 = (.int i1) := Option.some.inj ei1
  obtain ⟨i2, ei2⟩ := is_v gg7
  obtain rfl : w2 = (.int i2) := Option.some.inj ei2
  obtain ⟨i3, ei3⟩ := is_v gg8
  obtain rfl : w3 = (.int i3) := Option.some.inj ei3
  obtain ⟨n, o, h1, h2, h3, _, L, rfl, ⟨rfl, N⟩, hq⟩ := rm0 l s _ hw tables_1 i0 i1 i2 i3 s.heap s.heap.size (Nat.le_refl _) p e ha hc hk s m _ below hf ((Spec.applies_iff_loose hf).mp happ).1 ⟨rfl, State.Warmed39.refl s, rfl⟩ trivial
  refine ⟨n, _, h1, h2, h3, hpost _ _ _ _ _ _ ⟨Cond.after_iff.mpr rfl, Cond.after_iff.mpr (eq_i res_at (Term.int_eval (1)) rfl), trivial⟩ ⟨hq.1, hq.2.1, (hq.2.2.sift fun y hy => Or.inr (N y hy)).mono (by decide) (by decide)⟩⟩
theorem main_1_1 : Claimed_1_1 := comes_1 fun _ _ _ _ _ _ h hF => ⟨h.1, hF⟩
theorem main_1_2 : Claimed_1_2 := comes_1 fun _ _ _ _ _ _ h hF => ⟨h.2.1, hF⟩
end Jvm.Pilot.@@N@@
namespace Jvm.Pilot.@@N@@
open Jvm Jvm.ClassFile Sem Op Lib Jvm.Free Jvm.Stand Jvm.Pilot.@@N@@.Jvm.D
/-! MADE BY PROGRAM (witnessworld.py) out of the Statement's table words and the real class files: 11 classes; the members and pool entries that the words name. The judged class is class 1, her method 1. -/
namespace start1
open Jvm.ClassFile
def u (s : String) : CpInfo := .utf8 (stringToUtf16 s)
/-- a pool by its gaps: so many unusable entries, then the entry; so many at the end -/
def gap : Nat → List CpInfo → List CpInfo
  | 0, r => r
  | n + 1, r => .unusable :: gap n r
def poolList (es : List (Nat × CpInfo)) (last : Nat) : List CpInfo := es.foldr (fun e r => gap e.1 (e.2 :: r)) (gap last [])
def pool (es : List (Nat × CpInfo)) (last : Nat) : Array CpInfo := ⟨poolList es last⟩
def fileOf (pool : Array CpInfo) (this : Nat) (attrs : Array Attribute := #[]) (ms : Array MethodInfo := #[]) (fl : Nat := 33) (sup : Nat := 0) (ifs : Array Nat := #[]) (fds : Array FieldInfo := #[]) : ClassFile where
  minorVersion := 0
  majorVersion := 65
  constantPool := pool
  accessFlags := fl
  thisClass := this
  superClass := sup
  interfaces := ifs
  fields := fds
  methods := ms
  attributes := attrs
def plain (name : String) (sup : Option ClassId) : Class where
  name := name
  kind := .ordinary
  loader := none
  accessFlags := 33
  super := sup
  interfaces := #[]
  cf := none
  fields := #[]
  methods := #[]
  instanceTypes := #[]
  staticTypes := #[]
  resolved := #[]
  callSites := []
  init := .initialized
  statics := none
  mirror := none

def pool0 : Array CpInfo := pool [(5, u "<init>"), (0, u "()V"), (1, .class_ 10), (1, u "java/lang/Object")] 113

def k0c0 : Code := { maxStack := 0, maxLocals := 1, code := object_method_1_code, exceptionTable := #[], attributes := #[] }
def k0m0 : Method := { name := "<init>", desc := "()V", sig := { parameters := [], returnType := none }, accessFlags := 1, code := some k0c0 }
/-- java/lang/Object -/
def k0 : Class := { plain "java/lang/Object" none with
  accessFlags := 33
  interfaces := #[]
  cf := some (fileOf pool0 8 #[] #[{ accessFlags := 1, nameIndex := 5, descriptorIndex := 6, attributes := #[] }] 33 0 #[] #[])
  fields := #[]
  methods := #[k0m0]
  instanceTypes := #[]
  staticTypes := #[]
  resolved := Array.replicate 124 none
  statics := none }

def pool1 : Array CpInfo := pool [(2, .class_ 4), (1, u "java/lang/Object"), (0, u "<init>"), (0, u "()V"), (0, .class_ 8), (0, u "fieldglass/spec/Range"), (0, .integer 2147483647), (0, .methodref 7 11), (0, .nameAndType 5 12), (0, u "(II)V"), (0, .methodref 7 14), (0, .nameAndType 15 16), (0, u "firstIn"), (0, u "(I)I"), (0, .methodref 18 19), (0, .class_ 20), (0, .nameAndType 21 22), (0, u "fieldglass/spec/RangeFirstInPinLaw"), (0, u "expected"), (0, u "(III)I"), (2, u "law"), (0, u "(IIII)Z")] 3

def k1m0 : Method := { name := "<init>", desc := "()V", sig := { parameters := [], returnType := none }, accessFlags := 1, code := none }
def k1c1 : Code := { maxStack := 4, maxLocals := 9, code := code, exceptionTable := #[], attributes := #[] }
def k1m1 : Method := { name := "law", desc := "(IIII)Z", sig := { parameters := [.int, .int, .int, .int], returnType := some .boolean }, accessFlags := 9, code := some k1c1 }
def k1c2 : Code := { maxStack := 4, maxLocals := 7, code := method_3_code, exceptionTable := #[], attributes := #[] }
def k1m2 : Method := { name := "expected", desc := "(III)I", sig := { parameters := [.int, .int, .int], returnType := some .int }, accessFlags := 10, code := some k1c2 }
/-- fieldglass/spec/RangeFirstInPinLaw -/
def k1 : Class := { plain "fieldglass/spec/RangeFirstInPinLaw" (some 0) with
  accessFlags := 49
  interfaces := #[]
  cf := some (fileOf pool1 18 #[] #[{ accessFlags := 1, nameIndex := 5, descriptorIndex := 6, attributes := #[] }, { accessFlags := 9, nameIndex := 25, descriptorIndex := 26, attributes := #[] }, { accessFlags := 10, nameIndex := 21, descriptorIndex := 22, attributes := #[] }] 49 2 #[] #[])
  fields := #[]
  methods := #[k1m0, k1m1, k1m2]
  instanceTypes := #[]
  staticTypes := #[]
  resolved := Array.replicate 30 none
  statics := none }

def pool2 : Array CpInfo := pool [(1, .methodref 2 3), (0, .class_ 4), (0, .nameAndType 5 6), (0, u "java/lang/Object"), (0, u "<init>"), (0, u "()V"), (0, .class_ 8), (0, u "java/lang/Record")] 13

def k2c0 : Code := { maxStack := 1, maxLocals := 1, code := jdk_30_method_1_code, exceptionTable := #[], attributes := #[] }
def k2m0 : Method := { name := "<init>", desc := "()V", sig := { parameters := [], returnType := none }, accessFlags := 4, code := some k2c0 }
/-- java/lang/Record -/
def k2 : Class := { plain "java/lang/Record" (some 0) with
  accessFlags := 1057
  interfaces := #[]
  cf := some (fileOf pool2 7 #[] #[{ accessFlags := 4, nameIndex := 5, descriptorIndex := 6, attributes := #[] }] 1057 2 #[] #[])
  fields := #[]
  methods := #[k2m0]
  instanceTypes := #[]
  staticTypes := #[]
  resolved := Array.replicate 22 none
  statics := none }

def pool3 : Array CpInfo := pool [(1, .methodref 2 3), (0, .class_ 4), (0, .nameAndType 5 6), (0, u "java/lang/Record"), (0, u "<init>"), (0, u "()V"), (0, .class_ 8), (0, u "fieldglass/spec/Range"), (21, .fieldref 7 31), (0, .nameAndType 32 33), (0, u "first"), (0, u "I"), (0, .fieldref 7 35), (0, .nameAndType 36 33), (0, u "last"), (0, .methodref 38 39), (0, .class_ 40), (0, .nameAndType 41 42), (0, u "java/lang/Math"), (0, u "max"), (0, u "(II)I"), (15, u "LAST"), (2, u "(II)V"), (4, u "firstIn"), (0, u "(I)I")] 25

def k3c0 : Code := { maxStack := 7, maxLocals := 3, code := prog_55_method_1_code, exceptionTable := #[], attributes := #[] }
def k3m0 : Method := { name := "<init>", desc := "(II)V", sig := { parameters := [.int, .int], returnType := none }, accessFlags := 1, code := some k3c0 }
def k3c1 : Code := { maxStack := 3, maxLocals := 3, code := prog_55_method_2_code, exceptionTable := #[], attributes := #[] }
def k3m1 : Method := { name := "firstIn", desc := "(I)I", sig := { parameters := [.int], returnType := some .int }, accessFlags := 1, code := some k3c1 }
/-- fieldglass/spec/Range -/
def k3 : Class := { plain "fieldglass/spec/Range" (some 2) with
  accessFlags := 49
  interfaces := #[]
  cf := some (fileOf pool3 7 #[] #[{ accessFlags := 1, nameIndex := 5, descriptorIndex := 61, attributes := #[] }, { accessFlags := 1, nameIndex := 66, descriptorIndex := 67, attributes := #[] }] 49 2 #[] #[{ accessFlags := 18, nameIndex := 32, descriptorIndex := 33, attributes := #[] }, { accessFlags := 18, nameIndex := 36, descriptorIndex := 33, attributes := #[] }, { accessFlags := 25, nameIndex := 58, descriptorIndex := 33, attributes := #[] }])
  fields := #[{ name := "first", type := .int, accessFlags := 18, slot := 0, constantValue := 0 }, { name := "last", type := .int, accessFlags := 18, slot := 1, constantValue := 0 }, { name := "LAST", type := .int, accessFlags := 25, slot := 0, constantValue := 0 }]
  methods := #[k3m0, k3m1]
  instanceTypes := #[.int, .int]
  staticTypes := #[.int]
  resolved := Array.replicate 93 none
  statics := none }

def pool4 : Array CpInfo := pool [(1, .class_ 2), (0, u "java/lang/Math"), (1, .class_ 6), (1, u "java/lang/Object"), (0, u "<init>"), (0, u "()V"), (89, .class_ 100), (1, u "java/lang/Math$RandomNumberGeneratorHolder"), (71, u "negativeZeroFloatBits"), (0, u "J"), (2, u "negativeZeroDoubleBits"), (21, u "max"), (46, u "$assertionsDisabled"), (0, u "Z"), (88, u "(II)I"), (2, u "twoToTheDoubleScaleDown"), (0, u "D"), (4, u "twoToTheDoubleScaleUp"), (9, u "E"), (3, u "PI"), (2, u "TAU"), (2, u "DEGREES_TO_RADIANS"), (0, u "RADIANS_TO_DEGREES")] 94

def k4m0 : Method := { name := "<init>", desc := "()V", sig := { parameters := [], returnType := none }, accessFlags := 2, code := none }
def k4c1 : Code := { maxStack := 2, maxLocals := 2, code := jdk_29_method_65_code, exceptionTable := #[], attributes := #[] }
def k4m1 : Method := { name := "max", desc := "(II)I", sig := { parameters := [.int, .int], returnType := some .int }, accessFlags := 9, code := some k4c1 }
/-- java/lang/Math -/
def k4 : Class := { plain "java/lang/Math" (some 0) with
  accessFlags := 49
  interfaces := #[]
  cf := some (fileOf pool4 1 #[.nestMembers #[98]] #[{ accessFlags := 2, nameIndex := 7, descriptorIndex := 8, attributes := #[] }, { accessFlags := 9, nameIndex := 198, descriptorIndex := 335, attributes := #[] }] 49 4 #[] #[{ accessFlags := 25, nameIndex := 354, descriptorIndex := 339, attributes := #[] }, { accessFlags := 25, nameIndex := 358, descriptorIndex := 339, attributes := #[] }, { accessFlags := 25, nameIndex := 361, descriptorIndex := 339, attributes := #[] }, { accessFlags := 26, nameIndex := 364, descriptorIndex := 339, attributes := #[] }, { accessFlags := 26, nameIndex := 365, descriptorIndex := 339, attributes := #[] }, { accessFlags := 26, nameIndex := 172, descriptorIndex := 173, attributes := #[] }, { accessFlags := 26, nameIndex := 176, descriptorIndex := 173, attributes := #[] }, { accessFlags := 8, nameIndex := 344, descriptorIndex := 339, attributes := #[] }, { accessFlags := 8, nameIndex := 338, descriptorIndex := 339, attributes := #[] }, { accessFlags := 4120, nameIndex := 245, descriptorIndex := 246, attributes := #[] }])
  fields := #[{ name := "E", type := .double, accessFlags := 25, slot := 0, constantValue := 0 }, { name := "PI", type := .double, accessFlags := 25, slot := 1, constantValue := 0 }, { name := "TAU", type := .double, accessFlags := 25, slot := 2, constantValue := 0 }, { name := "DEGREES_TO_RADIANS", type := .double, accessFlags := 26, slot := 3, constantValue := 0 }, { name := "RADIANS_TO_DEGREES", type := .double, accessFlags := 26, slot := 4, constantValue := 0 }, { name := "negativeZeroFloatBits", type := .long, accessFlags := 26, slot := 5, constantValue := 0 }, { name := "negativeZeroDoubleBits", type := .long, accessFlags := 26, slot := 6, constantValue := 0 }, { name := "twoToTheDoubleScaleUp", type := .double, accessFlags := 8, slot := 7, constantValue := 0 }, { name := "twoToTheDoubleScaleDown", type := .double, accessFlags := 8, slot := 8, constantValue := 0 }, { name := "$assertionsDisabled", type := .boolean, accessFlags := 4120, slot := 9, constantValue := 0 }]
  methods := #[k4m0, k4m1]
  instanceTypes := #[]
  staticTypes := #[.double, .double, .double, .double, .double, .long, .long, .double, .double, .boolean]
  resolved := Array.replicate 460 none
  statics := none }

def pool5 : Array CpInfo := pool [(1, u "java/lang/Cloneable"), (0, .class_ 1), (0, u "java/lang/Object"), (0, .class_ 3)] 3

/-- java/lang/Cloneable -/
def k5 : Class := { plain "java/lang/Cloneable" (some 0) with
  accessFlags := 1537
  interfaces := #[]
  cf := some (fileOf pool5 2 #[] #[] 1537 4 #[] #[])
  fields := #[]
  methods := #[]
  instanceTypes := #[]
  staticTypes := #[]
  resolved := Array.replicate 8 none
  statics := none }

def pool6 : Array CpInfo := pool [(1, u "java/io/Serializable"), (0, .class_ 1), (0, u "java/lang/Object"), (0, .class_ 3)] 3

/-- java/io/Serializable -/
def k6 : Class := { plain "java/io/Serializable" (some 0) with
  accessFlags := 1537
  interfaces := #[]
  cf := some (fileOf pool6 2 #[] #[] 1537 4 #[] #[])
  fields := #[]
  methods := #[]
  instanceTypes := #[]
  staticTypes := #[]
  resolved := Array.replicate 8 none
  statics := none }

/-- the primitive byte -/
def k7 : Class := { plain "byte" none with kind := .primitive 'B', accessFlags := 0x411 }
/-- [B -/
def k8 : Class := { plain "[B" (some 0) with kind := .array 7 .byte, interfaces := #[5, 6], accessFlags := 1041 }

/-- the primitive int -/
def k9 : Class := { plain "int" none with kind := .primitive 'I', accessFlags := 0x411 }
/-- [I -/
def k10 : Class := { plain "[I" (some 0) with kind := .array 9 .int, interfaces := #[5, 6], accessFlags := 1041 }

def heap : Heap := #[]
def classes : Array Class := #[k0, k1, k2, k3, k4, k5, k6, k7, k8, k9, k10]
def interned : List (Array UInt16 × Addr) := []
def slotsUsed : Nat := 0
def theMethod : MethodId := ⟨1, 1⟩
def args0 : Array Value := #[.int 5, .int 7, .int 9, .int 0]
def aboutOver (below : List Frame) : State where
  vm := { classes := classes, interned := interned.toArray }
  heap := heap
  slotsUsed := slotsUsed
  threads := #[{ frames := .invoking theMethod args0 :: below }]
def below0 : List Frame := [.native { method := ⟨0, 0⟩, args := #[] }]
def about1 : State := aboutOver below0
def p0 : Program := .bare "" "" ""
def e0 : Env := launch0.env 0 0 0
theorem w_frames : about1.frames = Frame.invoking theMethod args0 :: below0 := rfl
set_option maxRecDepth 65536 in
theorem w_args : argsFit about1.vm theMethod args0 = true := by decide +kernel
set_option maxRecDepth 65536 in
theorem w_heap : heapFits about1 = true := by decide +kernel
set_option maxRecDepth 65536 in
theorem w_runnable : about1.curStatus? = some .runnable := by decide +kernel
set_option maxRecDepth 65536 in
theorem w_alone : about1.alone = true := by decide +kernel
set_option maxRecDepth 65536 in
theorem w_named : about1.methodNamed? x = some theMethod := by decide +kernel
set_option maxRecDepth 65536 in
theorem w_hears : about1.hears theMethod below0 = true := by decide +kernel
set_option maxRecDepth 65536 in
theorem w_ripe : about1.ripe theMethod args0 below0 = true := by decide +kernel
theorem w_running : about1.status = .running := rfl
set_option maxRecDepth 65536 in
theorem w_room : about1.hasRoom e0.platform room_1 = true :=
  launch0.hasRoom_least _ room_1 (by decide +kernel) (by decide +kernel) (by decide +kernel) (by decide +kernel) (by decide +kernel) (by decide +kernel)
theorem allAtoms_all (ts : List Jvm.Cond) (a : Array Jvm.Value) (st : Jvm.State) : (allAtoms ts).before a st = ts.all (fun c => c.before a st) := by
  induction ts with
  | nil => rfl
  | cons c t ih =>
    show (Jvm.Cond.and c (allAtoms t)).before a st = _
    rw [Jvm.Cond.before_and, ih, List.all_cons]
def words1 : List Jvm.Cond := Jvm.Cond.code x code maxLocals ret :: tables_1
/-- a 'code' word, met by the world's own term for the bytes: nothing is compared byte by byte -/
theorem code_word {y : MethodName} {bytes : ByteArray} {mx : Nat} {rt : Option FieldType} {a : Array Value} {s : State} {m : MethodId} {meth : Method} {c : Code} (h1 : s.methodNamed? y = some m) (h2 : s.vm.method? m = some meth) (h3 : meth.code = some c) (h4 : c.code = bytes)
    (h5 : (c.maxLocals == mx && c.exceptionTable.isEmpty && decide (c.maxStack ≤ mostOperands) && decide (meth.sig.returnType = rt) && !meth.locks && decide (parseMethodDescriptor y.desc = some meth.sig)) = true) : (Jvm.Cond.code y bytes mx rt).before a s = true := by
  simp only [Bool.and_eq_true, beq_iff_eq, Bool.not_eq_true', decide_eq_true_eq] at h5
  obtain ⟨⟨⟨⟨⟨g1, g2⟩, g3⟩, g4⟩, g5⟩, g6⟩ := h5
  simp [Cond.before, Cond.holds, Cond.value, h1, h2, h3, h4, g1, g2, g3, g4, g5, g6]
def isCode : Jvm.Cond → Bool
  | .code _ _ _ _ => true
  | _ => false
theorem all_split {L : List Jvm.Cond} {P : Jvm.Cond → Bool} (h1 : L.all (fun c => isCode c || P c) = true) (h2 : ∀ c ∈ L.filter isCode, P c = true) : L.all P = true := by
  refine List.all_eq_true.mpr fun c hc => ?_
  have h := List.all_eq_true.mp h1 c hc
  rcases Bool.eq_false_or_eq_true (isCode c) with hi | hi
  · exact h2 c (List.mem_filter.mpr ⟨hc, hi⟩)
  · simpa [hi] using h
set_option maxRecDepth 65536 in
theorem w_c0 : (Jvm.Cond.code x code maxLocals ret).before args0 about1 = true := code_word (m := ⟨1, 1⟩) (meth := k1m1) (c := k1c1) (by decide +kernel) rfl rfl rfl (by decide +kernel)
set_option maxRecDepth 65536 in
theorem w_c1 : (Jvm.Cond.code ({ cls := "fieldglass/spec/Range", name := "<init>", desc := "(II)V" } : Jvm.MethodName) prog_55_method_1_code (3 : Nat) (Option.none : Option Jvm.ClassFile.FieldType)).before args0 about1 = true := code_word (m := ⟨3, 0⟩) (meth := k3m0) (c := k3c0) (by decide +kernel) rfl rfl rfl (by decide +kernel)
set_option maxRecDepth 65536 in
theorem w_c2 : (Jvm.Cond.code ({ cls := "java/lang/Record", name := "<init>", desc := "()V" } : Jvm.MethodName) jdk_30_method_1_code (1 : Nat) (Option.none : Option Jvm.ClassFile.FieldType)).before args0 about1 = true := code_word (m := ⟨2, 0⟩) (meth := k2m0) (c := k2c0) (by decide +kernel) rfl rfl rfl (by decide +kernel)
set_option maxRecDepth 65536 in
theorem w_c3 : (Jvm.Cond.code ({ cls := "java/lang/Object", name := "<init>", desc := "()V" } : Jvm.MethodName) object_method_1_code (1 : Nat) (Option.none : Option Jvm.ClassFile.FieldType)).before args0 about1 = true := code_word (m := ⟨0, 0⟩) (meth := k0m0) (c := k0c0) (by decide +kernel) rfl rfl rfl (by decide +kernel)
set_option maxRecDepth 65536 in
theorem w_c4 : (Jvm.Cond.code ({ cls := "fieldglass/spec/Range", name := "firstIn", desc := "(I)I" } : Jvm.MethodName) prog_55_method_2_code (3 : Nat) (Option.some Jvm.ClassFile.FieldType.int)).before args0 about1 = true := code_word (m := ⟨3, 1⟩) (meth := k3m1) (c := k3c1) (by decide +kernel) rfl rfl rfl (by decide +kernel)
set_option maxRecDepth 65536 in
theorem w_c5 : (Jvm.Cond.code ({ cls := "java/lang/Math", name := "max", desc := "(II)I" } : Jvm.MethodName) jdk_29_method_65_code (2 : Nat) (Option.some Jvm.ClassFile.FieldType.int)).before args0 about1 = true := code_word (m := ⟨4, 1⟩) (meth := k4m1) (c := k4c1) (by decide +kernel) rfl rfl rfl (by decide +kernel)
set_option maxRecDepth 65536 in
theorem w_c6 : (Jvm.Cond.code ({ cls := "fieldglass/spec/RangeFirstInPinLaw", name := "expected", desc := "(III)I" } : Jvm.MethodName) method_3_code (7 : Nat) (Option.some Jvm.ClassFile.FieldType.int)).before args0 about1 = true := code_word (m := ⟨1, 2⟩) (meth := k1m2) (c := k1c2) (by decide +kernel) rfl rfl rfl (by decide +kernel)
def codes1 : List Jvm.Cond := [Jvm.Cond.code x code maxLocals ret, Jvm.Cond.code ({ cls := "fieldglass/spec/Range", name := "<init>", desc := "(II)V" } : Jvm.MethodName) prog_55_method_1_code (3 : Nat) (Option.none : Option Jvm.ClassFile.FieldType), Jvm.Cond.code ({ cls := "java/lang/Record", name := "<init>", desc := "()V" } : Jvm.MethodName) jdk_30_method_1_code (1 : Nat) (Option.none : Option Jvm.ClassFile.FieldType), Jvm.Cond.code ({ cls := "java/lang/Object", name := "<init>", desc := "()V" } : Jvm.MethodName) object_method_1_code (1 : Nat) (Option.none : Option Jvm.ClassFile.FieldType), Jvm.Cond.code ({ cls := "fieldglass/spec/Range", name := "firstIn", desc := "(I)I" } : Jvm.MethodName) prog_55_method_2_code (3 : Nat) (Option.some Jvm.ClassFile.FieldType.int), Jvm.Cond.code ({ cls := "java/lang/Math", name := "max", desc := "(II)I" } : Jvm.MethodName) jdk_29_method_65_code (2 : Nat) (Option.some Jvm.ClassFile.FieldType.int), Jvm.Cond.code ({ cls := "fieldglass/spec/RangeFirstInPinLaw", name := "expected", desc := "(III)I" } : Jvm.MethodName) method_3_code (7 : Nat) (Option.some Jvm.ClassFile.FieldType.int)]
set_option maxRecDepth 65536 in
theorem codes_eq : words1.filter isCode = codes1 := rfl
theorem w_codes : ∀ c ∈ words1.filter isCode, c.before args0 about1 = true := by
  rw [codes_eq]
  intro c hc
  simp only [codes1, List.mem_cons, List.not_mem_nil, or_false] at hc
  rcases hc with rfl | rfl | rfl | rfl | rfl | rfl | rfl
  · exact w_c0
  · exact w_c1
  · exact w_c2
  · exact w_c3
  · exact w_c4
  · exact w_c5
  · exact w_c6
set_option maxRecDepth 65536 in
theorem w_t1 : (words1.take 24).all (fun c => isCode c || c.before args0 about1) = true := by decide +kernel
set_option maxRecDepth 65536 in
theorem w_t2 : (words1.drop 24).all (fun c => isCode c || c.before args0 about1) = true := by decide +kernel
theorem w_tables : (allAtoms (Jvm.Cond.code x code maxLocals ret :: tables_1)).before args0 about1 = true := by
  rw [allAtoms_all]
  show words1.all (fun c => c.before args0 about1) = true
  refine all_split ?_ w_codes
  rw [← List.take_append_drop 24 words1, List.all_append, w_t1, w_t2]
  rfl
set_option maxRecDepth 65536 in
theorem w_case : (Jvm.Cond.and given_1 narrow_1).before args0 about1 = true := by decide +kernel
theorem w_applies : (headSpec (Jvm.Cond.code x code maxLocals ret :: tables_1) room_1).applies x e0.platform about1 = true :=
  (Spec.applies_iff w_frames).mpr ⟨w_running, w_runnable, w_alone, w_named, w_hears, w_ripe, w_room, w_tables⟩
theorem atStart : AtStart classFile x code maxLocals ret World_1 tables_1 room_1 Calls_1 rest_1 Pre_1 launch0 p0 e0 about1 theMethod args0 below0 :=
  ⟨lists_1, trivial, launch0.admits_env _ _ _, launch0.least_env, fairChoices_fair.cas, fairChoices_fair.clock, w_frames, w_args, w_heap, w_applies, trivial, trivial, w_case⟩
end start1
theorem witness_1 : WitnessClaimed_1 := ⟨start1.p0, start1.e0, start1.about1, start1.theMethod, start1.args0, start1.below0, start1.atStart⟩
end Jvm.Pilot.@@N@@
