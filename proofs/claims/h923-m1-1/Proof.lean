import JvmDerived
import JvmDerived.Pilot.@@N@@Statement
import JvmDerived.Pilot.@@N@@Code
set_option linter.unusedVariables false
set_option linter.unusedSimpArgs false
namespace Jvm.Own
open Sem ClassFile Op Lib Jvm.Stand Jvm.Free Jvm.LawKit Jvm.RoadKit
/-- from here the run goes on to a return that the contract allows -/
def Wk (p : Program) (e : Env) (below : List Frame) (F : Outcome → State → Prop) (T : State) (g : JFrame) : Prop :=
  ∃ s₂ o, Steps p.tables e below (T.setTop g) s₂ ∧ s₂.status = .running ∧ Ended s₂ below o ∧ F o s₂
abbrev FN (s : State) (Q : Option Value → Heap → List Loc → Prop) (kc ks : Nat) : Outcome → State → Prop := fun o s₂ => ∃ v L, o = .returned v ∧ Q v s₂.heap L ∧ FrameEnd s o s₂ L kc ks
section Walk
variable {p : Program} {l : Launch} {e : Env} {R : Room} {s : State} {m : MethodId} {args : Array Value} {below : List Frame} {meth : Method} {c : Code} {T : State} {locs : List Loc} {cells slots : Nat} {Q : Option Value → Heap → List Loc → Prop} {Fe : Outcome → State → Prop} {kc ks pc : Nat} {Ls : Array Slot} {S : List Value} {Z : State} {a0 : Array Value} {h : Heap}
theorem Wk.step {T' : State} {g g' : JFrame} (h : Wk p e below Fe T' g') (st : ∀ t, Steps p.tables e below (T'.setTop g') t → Steps p.tables e below (T.setTop g) t) : Wk p e below Fe T g := by
  obtain ⟨s₂, o, h1, h2⟩ := h
  exact ⟨s₂, o, st _ h1, h2⟩
theorem Wk.come {T' : State} {g g' : JFrame} (h : Wk p e below Fe T' g') (st : Steps p.tables e below (T.setTop g) (T'.setTop g')) : Wk p e below Fe T g := h.step fun _ k => st.trans k
theorem w_iload (X : Stand p l e R s m args below meth c T locs cells slots) (hx : p.tables.exec = Jvm.exec) {k : Nat} (v : Int32) (hd : decode c.code pc = .ok (.iload k, 2)) (pc' : Nat) (hp : pc + 2 = pc') (hl : Ls[k]? = some (.val (.int v))) (h : Wk p e below Fe T (mkF m pc' Ls (.int v :: S))) : Wk p e below Fe T (mkF m pc Ls S) := by
  subst hp; exact h.step fun _ k => XS.iload X.here hx rfl hd hl k
theorem w_iloadN (X : Stand p l e R s m args below meth c T locs cells slots) (hx : p.tables.exec = Jvm.exec) {k : Fin 4} (v : Int32) (hd : decode c.code pc = .ok (.iload_n k, 1)) (pc' : Nat) (hp : pc + 1 = pc') (hl : Ls[k.val]? = some (.val (.int v))) (h : Wk p e below Fe T (mkF m pc' Ls (.int v :: S))) : Wk p e below Fe T (mkF m pc Ls S) := by
  subst hp; exact h.step fun _ k => XS.iloadN X.here hx rfl hd hl k
theorem w_aload (X : Stand p l e R s m args below meth c T locs cells slots) (hx : p.tables.exec = Jvm.exec) {k : Nat} (v : Value) (hd : decode c.code pc = .ok (.aload k, 2)) (pc' : Nat) (hp : pc + 2 = pc') (hl : Ls[k]? = some (.val v)) (hv : v.isRef = true) (h : Wk p e below Fe T (mkF m pc' Ls (v :: S))) : Wk p e below Fe T (mkF m pc Ls S) := by
  subst hp; exact h.step fun _ k => XS.aload X.here hx rfl hd hl hv k
theorem w_aloadN (X : Stand p l e R s m args below meth c T locs cells slots) (hx : p.tables.exec = Jvm.exec) {k : Fin 4} (v : Value) (hd : decode c.code pc = .ok (.aload_n k, 1)) (pc' : Nat) (hp : pc + 1 = pc') (hl : Ls[k.val]? = some (.val v)) (hv : v.isRef = true) (h : Wk p e below Fe T (mkF m pc' Ls (v :: S))) : Wk p e below Fe T (mkF m pc Ls S) := by
  subst hp; exact h.step fun _ k => XS.aloadN X.here hx rfl hd hl hv k
theorem w_istore (X : Stand p l e R s m args below meth c T locs cells slots) (hx : p.tables.exec = Jvm.exec) {k : Nat} {x : Int32} (hd : decode c.code pc = .ok (.istore k, 2)) (pc' : Nat) (hp : pc + 2 = pc') (l' : Array Slot) (hl : storeLocals Ls k (.int x) = some l') (h : Wk p e below Fe T (mkF m pc' l' S)) : Wk p e below Fe T (mkF m pc Ls (.int x :: S)) := by
  subst hp; exact h.step fun _ k => XS.istore X.here hx rfl hd rfl hl k
theorem w_astore (X : Stand p l e R s m args below meth c T locs cells slots) (hx : p.tables.exec = Jvm.exec) {k : Nat} {x : Value} (hd : decode c.code pc = .ok (.astore k, 2)) (pc' : Nat) (hp : pc + 2 = pc') (hv : x.isRef = true) (l' : Array Slot) (hl : storeLocals Ls k x = some l') (h : Wk p e below Fe T (mkF m pc' l' S)) : Wk p e below Fe T (mkF m pc Ls (x :: S)) := by
  subst hp; exact h.step fun _ k => XS.astore X.here hx rfl hd rfl hv hl k
theorem w_iconst (X : Stand p l e R s m args below meth c T locs cells slots) (hx : p.tables.exec = Jvm.exec) {i : Int} (hd : decode c.code pc = .ok (.iconst i, 1)) (pc' : Nat) (hp : pc + 1 = pc') (z : Int32) (hz : Int32.ofInt i = z) (h : Wk p e below Fe T (mkF m pc' Ls (.int z :: S))) : Wk p e below Fe T (mkF m pc Ls S) := by
  subst hp hz; exact h.step fun _ k => XS.iconst X.here hx rfl hd k
theorem w_bipush (X : Stand p l e R s m args below meth c T locs cells slots) (hx : p.tables.exec = Jvm.exec) {i : Int} (hd : decode c.code pc = .ok (.bipush i, 2)) (pc' : Nat) (hp : pc + 2 = pc') (z : Int32) (hz : (Int8.ofInt i).toInt32 = z) (h : Wk p e below Fe T (mkF m pc' Ls (.int z :: S))) : Wk p e below Fe T (mkF m pc Ls S) := by
  subst hp hz; exact h.step fun _ k => XS.bipush X.here hx rfl hd k
theorem w_sipush (X : Stand p l e R s m args below meth c T locs cells slots) (hx : p.tables.exec = Jvm.exec) {i : Int} (hd : decode c.code pc = .ok (.sipush i, 3)) (pc' : Nat) (hp : pc + 3 = pc') (z : Int32) (hz : (Int16.ofInt i).toInt32 = z) (h : Wk p e below Fe T (mkF m pc' Ls (.int z :: S))) : Wk p e below Fe T (mkF m pc Ls S) := by
  subst hp hz; exact h.step fun _ k => XS.sipush X.here hx rfl hd k
theorem w_ldc (X : Stand p l e R s m args below meth c T locs cells slots) (hx : p.tables.exec = Jvm.exec) (hZ : Z.Warmed39 s.vm) {own : String} {index : Nat} {v : Int32} (hown : s.vm.findClass own = some m.cls) (w : (Cond.constant own index v).before a0 Z = true) (hd : decode c.code pc = .ok (.ldc index, 2)) (pc' : Nat) (hp : pc + 2 = pc') (h : Wk p e below Fe T (mkF m pc' Ls (.int v :: S))) : Wk p e below Fe T (mkF m pc Ls S) := by
  subst hp; exact h.step fun _ k => X.ldcInt hx hown (mvT hZ w) (g := mkF m pc Ls S) rfl hd _ k
theorem w_iand (X : Stand p l e R s m args below meth c T locs cells slots) (hx : p.tables.exec = Jvm.exec) {x y : Int32} (hd : decode c.code pc = .ok (.iand, 1)) (pc' : Nat) (hp : pc + 1 = pc') {z : Int32} (hz : z = x &&& y) (h : Wk p e below Fe T (mkF m pc' Ls (.int z :: S))) : Wk p e below Fe T (mkF m pc Ls (.int y :: .int x :: S)) := by
  subst hp hz; exact h.step fun _ k => XS.iand X.here hx rfl hd rfl k
theorem w_iushr (X : Stand p l e R s m args below meth c T locs cells slots) (hx : p.tables.exec = Jvm.exec) {x y : Int32} (hd : decode c.code pc = .ok (.iushr, 1)) (pc' : Nat) (hp : pc + 1 = pc') {z : Int32} (hz : z = (x.toUInt32 >>> (y &&& 31).toUInt32).toInt32) (h : Wk p e below Fe T (mkF m pc' Ls (.int z :: S))) : Wk p e below Fe T (mkF m pc Ls (.int y :: .int x :: S)) := by
  subst hp hz; exact h.step fun _ k => XS.iushr X.here hx rfl hd rfl k
theorem w_irem (X : Stand p l e R s m args below meth c T locs cells slots) (hx : p.tables.exec = Jvm.exec) {x y : Int32} (hd : decode c.code pc = .ok (.irem, 1)) (pc' : Nat) (hp : pc + 1 = pc') (hy : y ≠ 0) {z : Int32} (hz : z = x % y) (h : Wk p e below Fe T (mkF m pc' Ls (.int z :: S))) : Wk p e below Fe T (mkF m pc Ls (.int y :: .int x :: S)) := by
  subst hp hz; exact h.step fun _ k => iremM (g := mkF m pc Ls (.int y :: .int x :: S)) X hx rfl hd rfl hy k
theorem w_i2b (X : Stand p l e R s m args below meth c T locs cells slots) (hx : p.tables.exec = Jvm.exec) {x : Int32} (hd : decode c.code pc = .ok (.i2b, 1)) (pc' : Nat) (hp : pc + 1 = pc') {z : Int32} (hz : z = x.toInt8.toInt32) (h : Wk p e below Fe T (mkF m pc' Ls (.int z :: S))) : Wk p e below Fe T (mkF m pc Ls (.int x :: S)) := by
  subst hp hz; exact h.step fun _ k => XS.i2b X.here hx rfl hd rfl k
theorem w_iinc (X : Stand p l e R s m args below meth c T locs cells slots) (hx : p.tables.exec = Jvm.exec) {k : Nat} {cst : Int} {x : Int32} (hd : decode c.code pc = .ok (.iinc k cst, 3)) (pc' : Nat) (hp : pc + 3 = pc') (hl : Ls[k]? = some (.val (.int x))) (z : Int32) (hz : z = x + Int32.ofInt cst) (l' : Array Slot) (hl' : storeLocals Ls k (.int z) = some l') (h : Wk p e below Fe T (mkF m pc' l' S)) : Wk p e below Fe T (mkF m pc Ls S) := by
  subst hp hz; exact h.step fun _ k => XS.iinc X.here hx rfl hd hl hl' k
theorem w_goto (X : Stand p l e R s m args below meth c T locs cells slots) (hx : p.tables.exec = Jvm.exec) {o : Int} (hd : decode c.code pc = .ok (.goto o, 3)) (pc' : Nat) (h : Wk p e below Fe T (mkF m pc' Ls S)) (ho : 0 ≤ (pc : Int) + o := by decide) (hp : ((pc : Int) + o).toNat = pc' := by decide) : Wk p e below Fe T (mkF m pc Ls S) := by
  exact h.step fun _ k => XS.goto X.here hx rfl rfl hd ho hp k
theorem holds_eq {x y : Int32} {A B : Int} (ha : x.toInt = A) (hb : y.toInt = B) : ((A = B) → if_icmp.holds .eq x y = true) ∧ ((¬ A = B) → if_icmp.holds .eq x y = false) := by
  subst ha hb
  constructor
  · intro q
    first
    | exact (tlt (x := x) (y := y) (Int32.lt_iff_toInt_lt.mpr (by omega))).1
    | exact (flt (x := x) (y := y) (fun r => by have := Int32.lt_iff_toInt_lt.mp r; omega)).2.1
    | exact (tlt (x := y) (y := x) (Int32.lt_iff_toInt_lt.mpr (by omega))).2.2.1
    | exact (flt (x := y) (y := x) (fun r => by have := Int32.lt_iff_toInt_lt.mp r; omega)).2.2.2
    | exact (teq (x := x) (y := y) (Int32.toInt_inj.mp (by omega))).1
    | exact (feq (x := x) (y := y) (fun r => q (by rw [r]))).2
  · intro q
    first
    | exact (flt (x := x) (y := y) (fun r => by have := Int32.lt_iff_toInt_lt.mp r; omega)).1
    | exact (tlt (x := x) (y := y) (Int32.lt_iff_toInt_lt.mpr (by omega))).2.1
    | exact (flt (x := y) (y := x) (fun r => by have := Int32.lt_iff_toInt_lt.mp r; omega)).2.2.1
    | exact (tlt (x := y) (y := x) (Int32.lt_iff_toInt_lt.mpr (by omega))).2.2.2
    | exact (feq (x := x) (y := y) (fun r => q (by rw [r]))).1
    | exact (teq (x := x) (y := y) (Int32.toInt_inj.mp (by omega))).2
theorem w_if_eq (X : Stand p l e R s m args below meth c T locs cells slots) (hx : p.tables.exec = Jvm.exec) {x : Int32} {o : Int} (A : Int) (ha : x.toInt = A) (hd : decode c.code pc = .ok (.ifCond .eq o, 3)) (pt pn : Nat) (h1 : A = 0 → Wk p e below Fe T (mkF m pt Ls S)) (h2 : ¬ A = 0 → Wk p e below Fe T (mkF m pn Ls S)) (ho : 0 ≤ (pc : Int) + o := by decide) (hp : ((pc : Int) + o).toNat = pt := by decide) (hn : pc + 3 = pn := by rfl) : Wk p e below Fe T (mkF m pc Ls (.int x :: S)) := by
  subst hn
  have hb : (0 : Int32).toInt = 0 := rfl
  by_cases q : A = 0
  · exact (h1 q).step fun _ k => XS.ifYes X.here hx rfl rfl hd rfl ((if0 _ _).trans ((holds_eq ha hb).1 q)) ho hp k
  · have q' : ¬ A = 0 := by omega
    exact (h2 q').step fun _ k => XS.ifNo X.here hx rfl hd rfl ((if0 _ _).trans ((holds_eq ha hb).2 q')) k
theorem holds_ne {x y : Int32} {A B : Int} (ha : x.toInt = A) (hb : y.toInt = B) : ((¬ A = B) → if_icmp.holds .ne x y = true) ∧ ((A = B) → if_icmp.holds .ne x y = false) := by
  subst ha hb
  constructor
  · intro q
    first
    | exact (tlt (x := x) (y := y) (Int32.lt_iff_toInt_lt.mpr (by omega))).1
    | exact (flt (x := x) (y := y) (fun r => by have := Int32.lt_iff_toInt_lt.mp r; omega)).2.1
    | exact (tlt (x := y) (y := x) (Int32.lt_iff_toInt_lt.mpr (by omega))).2.2.1
    | exact (flt (x := y) (y := x) (fun r => by have := Int32.lt_iff_toInt_lt.mp r; omega)).2.2.2
    | exact (teq (x := x) (y := y) (Int32.toInt_inj.mp (by omega))).1
    | exact (feq (x := x) (y := y) (fun r => q (by rw [r]))).2
  · intro q
    first
    | exact (flt (x := x) (y := y) (fun r => by have := Int32.lt_iff_toInt_lt.mp r; omega)).1
    | exact (tlt (x := x) (y := y) (Int32.lt_iff_toInt_lt.mpr (by omega))).2.1
    | exact (flt (x := y) (y := x) (fun r => by have := Int32.lt_iff_toInt_lt.mp r; omega)).2.2.1
    | exact (tlt (x := y) (y := x) (Int32.lt_iff_toInt_lt.mpr (by omega))).2.2.2
    | exact (feq (x := x) (y := y) (fun r => q (by rw [r]))).1
    | exact (teq (x := x) (y := y) (Int32.toInt_inj.mp (by omega))).2
theorem w_icmp_ne (X : Stand p l e R s m args below meth c T locs cells slots) (hx : p.tables.exec = Jvm.exec) {x y : Int32} {o : Int} (A B : Int) (ha : x.toInt = A) (hb : y.toInt = B) (hd : decode c.code pc = .ok (.if_icmp .ne o, 3)) (pt pn : Nat) (h1 : ¬ A = B → Wk p e below Fe T (mkF m pt Ls S)) (h2 : A = B → Wk p e below Fe T (mkF m pn Ls S)) (ho : 0 ≤ (pc : Int) + o := by decide) (hp : ((pc : Int) + o).toNat = pt := by decide) (hn : pc + 3 = pn := by rfl) : Wk p e below Fe T (mkF m pc Ls (.int y :: .int x :: S)) := by
  subst hn
  by_cases q : ¬ A = B
  · exact (h1 q).step fun _ k => XS.icmpYes X.here hx rfl rfl hd rfl ((holds_ne ha hb).1 q) ho hp k
  · have q' : A = B := by omega
    exact (h2 q').step fun _ k => XS.icmpNo X.here hx rfl hd rfl ((holds_ne ha hb).2 q') k
theorem holds_lt {x y : Int32} {A B : Int} (ha : x.toInt = A) (hb : y.toInt = B) : ((A < B) → if_icmp.holds .lt x y = true) ∧ ((B ≤ A) → if_icmp.holds .lt x y = false) := by
  subst ha hb
  constructor
  · intro q
    first
    | exact (tlt (x := x) (y := y) (Int32.lt_iff_toInt_lt.mpr (by omega))).1
    | exact (flt (x := x) (y := y) (fun r => by have := Int32.lt_iff_toInt_lt.mp r; omega)).2.1
    | exact (tlt (x := y) (y := x) (Int32.lt_iff_toInt_lt.mpr (by omega))).2.2.1
    | exact (flt (x := y) (y := x) (fun r => by have := Int32.lt_iff_toInt_lt.mp r; omega)).2.2.2
    | exact (teq (x := x) (y := y) (Int32.toInt_inj.mp (by omega))).1
    | exact (feq (x := x) (y := y) (fun r => q (by rw [r]))).2
  · intro q
    first
    | exact (flt (x := x) (y := y) (fun r => by have := Int32.lt_iff_toInt_lt.mp r; omega)).1
    | exact (tlt (x := x) (y := y) (Int32.lt_iff_toInt_lt.mpr (by omega))).2.1
    | exact (flt (x := y) (y := x) (fun r => by have := Int32.lt_iff_toInt_lt.mp r; omega)).2.2.1
    | exact (tlt (x := y) (y := x) (Int32.lt_iff_toInt_lt.mpr (by omega))).2.2.2
    | exact (feq (x := x) (y := y) (fun r => q (by rw [r]))).1
    | exact (teq (x := x) (y := y) (Int32.toInt_inj.mp (by omega))).2
theorem w_icmp_lt (X : Stand p l e R s m args below meth c T locs cells slots) (hx : p.tables.exec = Jvm.exec) {x y : Int32} {o : Int} (A B : Int) (ha : x.toInt = A) (hb : y.toInt = B) (hd : decode c.code pc = .ok (.if_icmp .lt o, 3)) (pt pn : Nat) (h1 : A < B → Wk p e below Fe T (mkF m pt Ls S)) (h2 : B ≤ A → Wk p e below Fe T (mkF m pn Ls S)) (ho : 0 ≤ (pc : Int) + o := by decide) (hp : ((pc : Int) + o).toNat = pt := by decide) (hn : pc + 3 = pn := by rfl) : Wk p e below Fe T (mkF m pc Ls (.int y :: .int x :: S)) := by
  subst hn
  by_cases q : A < B
  · exact (h1 q).step fun _ k => XS.icmpYes X.here hx rfl rfl hd rfl ((holds_lt ha hb).1 q) ho hp k
  · have q' : B ≤ A := by omega
    exact (h2 q').step fun _ k => XS.icmpNo X.here hx rfl hd rfl ((holds_lt ha hb).2 q') k
theorem holds_ge {x y : Int32} {A B : Int} (ha : x.toInt = A) (hb : y.toInt = B) : ((B ≤ A) → if_icmp.holds .ge x y = true) ∧ ((A < B) → if_icmp.holds .ge x y = false) := by
  subst ha hb
  constructor
  · intro q
    first
    | exact (tlt (x := x) (y := y) (Int32.lt_iff_toInt_lt.mpr (by omega))).1
    | exact (flt (x := x) (y := y) (fun r => by have := Int32.lt_iff_toInt_lt.mp r; omega)).2.1
    | exact (tlt (x := y) (y := x) (Int32.lt_iff_toInt_lt.mpr (by omega))).2.2.1
    | exact (flt (x := y) (y := x) (fun r => by have := Int32.lt_iff_toInt_lt.mp r; omega)).2.2.2
    | exact (teq (x := x) (y := y) (Int32.toInt_inj.mp (by omega))).1
    | exact (feq (x := x) (y := y) (fun r => q (by rw [r]))).2
  · intro q
    first
    | exact (flt (x := x) (y := y) (fun r => by have := Int32.lt_iff_toInt_lt.mp r; omega)).1
    | exact (tlt (x := x) (y := y) (Int32.lt_iff_toInt_lt.mpr (by omega))).2.1
    | exact (flt (x := y) (y := x) (fun r => by have := Int32.lt_iff_toInt_lt.mp r; omega)).2.2.1
    | exact (tlt (x := y) (y := x) (Int32.lt_iff_toInt_lt.mpr (by omega))).2.2.2
    | exact (feq (x := x) (y := y) (fun r => q (by rw [r]))).1
    | exact (teq (x := x) (y := y) (Int32.toInt_inj.mp (by omega))).2
theorem w_icmp_ge (X : Stand p l e R s m args below meth c T locs cells slots) (hx : p.tables.exec = Jvm.exec) {x y : Int32} {o : Int} (A B : Int) (ha : x.toInt = A) (hb : y.toInt = B) (hd : decode c.code pc = .ok (.if_icmp .ge o, 3)) (pt pn : Nat) (h1 : B ≤ A → Wk p e below Fe T (mkF m pt Ls S)) (h2 : A < B → Wk p e below Fe T (mkF m pn Ls S)) (ho : 0 ≤ (pc : Int) + o := by decide) (hp : ((pc : Int) + o).toNat = pt := by decide) (hn : pc + 3 = pn := by rfl) : Wk p e below Fe T (mkF m pc Ls (.int y :: .int x :: S)) := by
  subst hn
  by_cases q : B ≤ A
  · exact (h1 q).step fun _ k => XS.icmpYes X.here hx rfl rfl hd rfl ((holds_ge ha hb).1 q) ho hp k
  · have q' : A < B := by omega
    exact (h2 q').step fun _ k => XS.icmpNo X.here hx rfl hd rfl ((holds_ge ha hb).2 q') k
theorem w_retN (X : Stand p l e R s m args below meth c T locs cells slots) (hx : p.tables.exec = Jvm.exec) (hlocks : meth.locks = false) {t : FieldType} {z : Int32} (hret : meth.sig.returnType = some t) (ht : t = .boolean ∨ t = .byte ∨ t = .char ∨ t = .short) (hd : decode c.code pc = .ok (.ireturn, 1)) (hc : cells ≤ kc) (hs : slots ≤ ks) (hQ : Q (some (.int (nar t z))) T.heap locs) : Wk p e below (FN s Q kc ks) T (mkF m pc Ls (.int z :: S)) := by
  obtain ⟨fs, hr, hrun, hended, hW, hsame⟩ := X.leave (v := some (.int (nar t z))) (fun h => by rw [hret] at h; cases h) hlocks
  exact ⟨_, _, retN X hx hret ht hd hr, hrun, hended, _, _, rfl, hQ, ⟨_, rfl⟩, hW, hsame.mono hc hs⟩
theorem w_retO (X : Stand p l e R s m args below meth c T locs cells slots) (hx : p.tables.exec = Jvm.exec) (hlocks : meth.locks = false) {t : FieldType} {w : Value} {i : Instr} (hret : meth.sig.returnType = some t) (hn : narrow t w = w)
    (hi : (i = .ireturn ∧ (t = .int ∨ t = .boolean ∨ t = .byte ∨ t = .char ∨ t = .short) ∧ ∃ z, w = .int z) ∨ (i = .lreturn ∧ t = .long ∧ ∃ z, w = .long z) ∨ (i = .dreturn ∧ t = .double ∧ ∃ z, w = .double z) ∨ (i = .freturn ∧ t = .float ∧ ∃ z, w = .float z) ∨ (i = .areturn ∧ t.isReference = true ∧ w.isRef = true))
    (hd : decode c.code pc = .ok (i, 1)) (hc : cells ≤ kc) (hs : slots ≤ ks) (hQ : Q (some w) T.heap locs) : Wk p e below (FN s Q kc ks) T (mkF m pc Ls (w :: S)) := by
  obtain ⟨fs, hr, hrun, hended, hW, hsame⟩ := X.leave (v := some w) (fun h => by rw [hret] at h; cases h) hlocks
  exact ⟨_, _, retOut X hx hret hn hi hd hr, hrun, hended, _, _, rfl, hQ, ⟨_, rfl⟩, hW, hsame.mono hc hs⟩
theorem w_retI (X : Stand p l e R s m args below meth c T locs cells slots) (hx : p.tables.exec = Jvm.exec) (hlocks : meth.locks = false) {z : Int32} (hret : meth.sig.returnType = some .int) (hd : decode c.code pc = .ok (.ireturn, 1)) (hc : cells ≤ kc) (hs : slots ≤ ks) (hQ : Q (some (.int z)) T.heap locs) : Wk p e below (FN s Q kc ks) T (mkF m pc Ls (.int z :: S)) :=
  w_retO X hx hlocks hret rfl (Or.inl ⟨rfl, Or.inl rfl, _, rfl⟩) hd hc hs hQ
theorem w_callS (X : Stand p l e R s m args below meth c T locs cells slots) (hx : p.tables.exec = Jvm.exec) (hZ : Z.Warmed39 s.vm) {own : String} {index : Nat} {y : MethodName} {bytes : ByteArray} {maxL : Nat} {ret : Option FieldType} {rm : Room} {as' : Array Value} {Qc : Option Value → Heap → List Loc → Prop} (hown : s.vm.findClass own = some m.cls) (eT : T.heap = h)
    (hM : MetFree l y (head1 [Cond.code y bytes maxL ret] rm) (fun a U => a = as' ∧ Z.Warmed39 U.vm ∧ U.heap = h) (fun _ _ _ _ _ => True) (fun _ U o U' => ∃ v L, o = .returned v ∧ Qc v U'.heap L ∧ FrameEnd U o U' L rm.cells rm.slots))
    (w1 : (Cond.methodLink own index y).before a0 Z = true) (w2 : (Cond.static y).before a0 Z = true) (w3 : (Cond.initialized y.cls).before a0 Z = true) (w4 : (Cond.code y bytes maxL ret).before a0 Z = true) (hy : y.cls ≠ "java/lang/invoke/MethodHandle" ∧ y.cls ≠ "java/lang/invoke/VarHandle")
    (hsize : Ls.size = c.maxLocals) (argsL rest : List Value) (hlen : ∀ sig, parseMethodDescriptor y.desc = some sig → argsL.length = sig.parameters.length) (hst : S = argsL.reverse ++ rest) (has : argsL.toArray = as')
    (hf : rm.frames + 1 ≤ R.frames) (W : Nat) (hW : (rest.map fun v => v.category).sum = W) (hl : W + (maxL + 11) + rm.locals ≤ R.locals) (hc : cells + rm.cells ≤ R.cells) (hs : slots + rm.slots ≤ R.slots) (hd : decode c.code pc = .ok (.invokestatic index, 3)) (pc' : Nat) (hp : pc + 3 = pc')
    (k : ∀ (v : Option Value) (T' : State) (L : List Loc), Stand p l e R s m args below meth c T' (locs ++ L) (cells + rm.cells) (slots + rm.slots) → Qc v T'.heap L → Wk p e below Fe T' (mkF m pc' Ls (v.toList ++ rest))) : Wk p e below Fe T (mkF m pc Ls S) := by
  subst hp hst has hW
  obtain ⟨v, _, ⟨T', L', k', n'⟩, -, X', ⟨Lc, q1, q2, q3, q4⟩, st⟩ := Jvm.LawKit.callS X hx hown (mvT hZ w1) (mvT hZ w2) (mvT hZ w3) (mvT hZ w4) hy (backOf hM hZ w4 w3 hf hl) (g := mkF m pc Ls (argsL.reverse ++ rest)) rfl hsize hlen rfl (by show 2 * 0 + _ ≤ _; rw [Nat.mul_zero, Nat.zero_add]; exact Nat.le_refl _) hd (fun _ _ => ⟨rfl, eT, hc, hs⟩)
  dsimp only [Pt.U, Pt.locs, Pt.cells, Pt.slots] at X' q2 q3 q4 st q1
  subst q2 q3 q4
  exact (k v T' Lc X' q1).step st
theorem w_newP (X : Stand p l e R s m args below meth c T locs cells slots) (hx : p.tables.exec = Jvm.exec) (hZ : Z.Warmed39 s.vm) (eT : T.heap = h) {aty : ArrayType} (w : (Cond.arrayClass (newarray.typeOf aty)).before a0 Z = true) {n : Int32} (hn : ¬ n < 0) (cap : Nat) (hcap : n.toNatClampNeg ≤ cap) (hb : cap * 8 ≤ 536870912) (hc : cells + 1 ≤ R.cells) (hl : slots + cap ≤ R.slots) (hd : decode c.code pc = .ok (.newarray aty, 2)) (pc' : Nat) (hp : pc + 2 = pc')
    (k : ∀ (T' : State) (h' : Heap) (a : Addr) (cA : ClassId), Stand p l e R s m args below meth c T' locs (cells + 1) (slots + cap) → T'.heap = h' → a = h.size → Ext h h' → Arv Z h' a cA (newarray.typeOf aty) n [] (defaultValue (newarray.typeOf aty)) → Wk p e below Fe T' (mkF m pc' Ls (.ref a :: S))) : Wk p e below Fe T (mkF m pc Ls (.int n :: S)) := by
  subst hp
  obtain ⟨T', h', cA, X', e', E', A', st⟩ := newP X hx hZ w eT (g := mkF m pc Ls (.int n :: S)) rfl hd rfl hn hcap hb hc hl
  exact (k T' h' _ cA X' e' rfl E' (Arv.new A' hn)).step st
theorem w_bastore (X : Stand p l e R s m args below meth c T locs cells slots) (hx : p.tables.exec = Jvm.exec) (hZ : Z.Warmed39 s.vm) (eT : T.heap = h) {a : Addr} {kA : ClassId} {z : Int32} {vs : List Value} {dv : Value} (A : Arv Z h a kA .byte z vs dv) {j x : Int32} (hj : 0 ≤ j.toInt ∧ j.toInt < z.toInt) (i : Nat) (hi : j.toNatClampNeg = i) (hv : i < vs.length) (hd : decode c.code pc = .ok (.bastore, 1)) (pc' : Nat) (hp : pc + 1 = pc')
    (k : ∀ (T' : State) (h' : Heap), Stand p l e R s m args below meth c T' (locs ++ [⟨a, j.toNatClampNeg⟩]) cells slots → T'.heap = h' → Wr h h' a j.toNatClampNeg (.int x.toInt8.toInt32) → Arv Z h' a kA .byte z (vs.set i (.int x.toInt8.toInt32)) dv → Wk p e below Fe T' (mkF m pc' Ls S)) : Wk p e below Fe T (mkF m pc Ls (.int x :: .int j :: .ref a :: S)) := by
  subst hp
  obtain ⟨cl, Ar, q, Sz, Nz, H, G⟩ := A
  have hin : ¬ (j < 0 ∨ cl.slots.size ≤ j.toNatClampNeg) := inb_of Sz ⟨fun r => by have := Int32.lt_iff_toInt_lt.mp r; have h0 : (0 : Int32).toInt = 0 := rfl; omega, Int32.lt_iff_toInt_lt.mpr hj.2⟩
  obtain ⟨T', h', X', e', W', st⟩ := stB X hx hZ eT Ar hin (g := mkF m pc Ls (.int x :: .int j :: .ref a :: S)) rfl rfl hd
  exact (k T' h' X' e' W' (Arv.set Ar q Sz Nz H G (fits_nar_byte _) W' i hi hv)).step st
theorem w_baload (X : Stand p l e R s m args below meth c T locs cells slots) (hx : p.tables.exec = Jvm.exec) (hZ : Z.Warmed39 s.vm) (eT : T.heap = h) {a : Addr} {kA : ClassId} {z : Int32} {vs : List Value} {dv : Value} (A : Arv Z h a kA .byte z vs dv) {j : Int32} (hj : 0 ≤ j.toInt ∧ j.toInt < z.toInt) {v : Value} (hv : vs.getD j.toNatClampNeg dv = v) (hd : decode c.code pc = .ok (.baload, 1)) (pc' : Nat) (hp : pc + 1 = pc')
    (k : Wk p e below Fe T (mkF m pc' Ls (v :: S))) : Wk p e below Fe T (mkF m pc Ls (.int j :: .ref a :: S)) := by
  subst hp
  obtain ⟨cl, Ar, q, Sz, Nz, H, G⟩ := A
  have hin : ¬ (j < 0 ∨ cl.slots.size ≤ j.toNatClampNeg) := inb_of Sz ⟨fun r => by have := Int32.lt_iff_toInt_lt.mp r; have h0 : (0 : Int32).toInt = 0 := rfl; omega, Int32.lt_iff_toInt_lt.mpr hj.2⟩
  exact k.step fun t r => X.baloadBytes hx (by rw [eT]; exact Ar.1) (State.isArrayOf_alike hZ.alike Ar.2.1) Ar.2.2 hin (Has.at H hin hv) (g := mkF m pc Ls (.int j :: .ref a :: S)) rfl rfl hd t r
abbrev CT (l : Launch) (y : MethodName) (bytes : ByteArray) (maxL : Nat) (ret : Option FieldType) (ws : List Cond) (rm : Room) (as' : Array Value) (Z : State) (h0 : Heap) (Q : Option Value → Heap → List Loc → Prop) : Prop :=
  MetFree l y (head1 (Cond.code y bytes maxL ret :: ws) rm) (fun a U => a = as' ∧ Z.Warmed39 U.vm ∧ U.heap = h0) (fun _ _ _ _ _ => True) (fun _ U o U' => ∃ v L, o = .returned v ∧ Q v U'.heap L ∧ FrameEnd U o U' L rm.cells rm.slots)
theorem body_of {y : MethodName} {bytes : ByteArray} {maxL : Nat} {ret : Option FieldType} {ws : List Cond} {rm : Room} {as' : Array Value} {h0 : Heap} (hpl : plainFor y = true)
    (k : ∀ (p : Program) (e : Env) (s : State) (m : MethodId) (below : List Frame) (meth : Method) (c : Code) (s₁ : State), p.tables.exec = Jvm.exec → (∀ {pc : Nat} {r : Except DecodeError (Instr × Nat)}, decode bytes pc = r → decode c.code pc = r) → meth.sig.returnType = ret → meth.locks = false → c.maxLocals = maxL → s.vm.findClass y.cls = some m.cls → meth.name = y.name → Stand p l e rm s m as' below meth c s₁ [] 0 0 → s₁.heap = h0 → Z.Warmed39 s.vm → Wk p e below (FN s Q kc ks) s₁ (entryFrame m as' maxL)) :
    MetFree l y (head1 (Cond.code y bytes maxL ret :: ws) rm) (fun a U => a = as' ∧ Z.Warmed39 U.vm ∧ U.heap = h0) (fun _ _ _ _ _ => True) (fun _ U o U' => ∃ v L, o = .returned v ∧ Q v U'.heap L ∧ FrameEnd U o U' L kc ks) := by
  refine MetFree.of_bodySF hpl hisR ?_
  intro p e s m args below meth c s₁ Bd hml0 hP hK
  obtain ⟨rfl, hZ, hh⟩ := hP
  obtain ⟨s₂, o, h1, h2⟩ := k p e s m below meth c s₁ Bd.exec (fun q => hb Bd.bytes q) Bd.returns Bd.notSynchronized hml0 (findClass_of_methodNamed Bd.named) (name_of_methodNamed Bd.named Bd.method).1 (Stand.of_body Bd) (by rw [← hh, Bd.state]; rfl) hZ
  exact ⟨s₂, o, h1, h2⟩
end Walk
/-! plain facts on Int32 and Int64, in Ints -/
theorem eqI {x y : Int32} (h : x.toInt = y.toInt) : x = y := Int32.toInt_inj.mp h
theorem maskX {x m : Int32} {A : Int} (k : Nat) (ha : x.toInt = A) (hk : k ≤ 31) (hm : m.toBitVec.toNat = 2 ^ k - 1) : (x &&& m).toInt = A % (2 ^ k : Nat) := by subst ha; exact c_mask x m k hk hm
theorem iushrX {x q : Int32} {A : Int} (k : Nat) (ha : x.toInt = A) (hk : q.toBitVec.toNat % 32 = k) (h0 : 0 < k) : ((x.toUInt32 >>> (q &&& 31).toUInt32).toInt32).toInt = (A % 4294967296) / (2 ^ k : Nat) := by subst ha; exact c_iushr x q k hk h0
theorem iremX {x y : Int32} {A d : Int} (ha : x.toInt = A) (hy : y.toInt = d) (h0 : 0 ≤ A) : (x % y).toInt = A % d := by subst ha; exact (c_irem x y d hy).1 h0
theorem i2bX {x : Int32} {A : Int} (ha : x.toInt = A) : (x.toInt8.toInt32.toInt - A) % 256 = 0 ∧ -128 ≤ x.toInt8.toInt32.toInt ∧ x.toInt8.toInt32.toInt < 128 := by
  subst ha; exact c_i2b x
theorem byteE {x : Int32} {A : Int} (ha : x.toInt = A) (h0 : -128 ≤ A) (h1 : A < 128) : x.toInt8.toInt32.toInt = x.toInt := by
  have := c_i2b x; omega
theorem getD_int (xs : List Int32) (k : Nat) : (xs.map Value.int).getD k (.int 0) = .int (xs.getD k 0) := by
  simp only [List.getD_eq_getElem?_getD, List.getElem?_map]
  cases xs[k]? <;> rfl
theorem getD_all {xs : List Int32} {P : Int32 → Prop} (h : ∀ x ∈ xs, P x) (h0 : P 0) (k : Nat) : P (xs.getD k 0) := by
  rw [List.getD_eq_getElem?_getD]
  cases q : xs[k]? with
  | none => exact h0
  | some x => exact h x (List.mem_of_getElem? q)
end Jvm.Own
namespace Jvm.Pilot.@@N@@
open Jvm Jvm.ClassFile Sem Op Lib Jvm.Free Jvm.Stand Jvm.LawKit Jvm.RoadKit Bundle Jvm.Own Jvm.Pilot.@@N@@.Jvm.D
abbrev cN_0 : String := "fieldglass/record/TerminatedInputIndexOfPinLaw"
abbrev cN_1 : String := "fieldglass/record/TerminatedInput"
theorem tw_0 {Z : State} {a0 : Array Value} (hw : ∀ d ∈ tables_1, d.before a0 Z = true) : (Jvm.Cond.arrayClass Jvm.ClassFile.FieldType.byte).before a0 Z = true := hw _ (List.mem_of_getElem? (i := 0) rfl)
theorem tw_1 {Z : State} {a0 : Array Value} (hw : ∀ d ∈ tables_1, d.before a0 Z = true) : (Jvm.Cond.constant "fieldglass/record/TerminatedInputIndexOfPinLaw" (7 : Nat) (2147483647 : Int32)).before a0 Z = true := hw _ (List.mem_of_getElem? (i := 1) rfl)
theorem tw_2 {Z : State} {a0 : Array Value} (hw : ∀ d ∈ tables_1, d.before a0 Z = true) : (Jvm.Cond.methodLink "fieldglass/record/TerminatedInputIndexOfPinLaw" (8 : Nat) ({ cls := "fieldglass/record/TerminatedInputIndexOfPinLaw", name := "hit", desc := "([BBIII)Z" } : Jvm.MethodName)).before a0 Z = true := hw _ (List.mem_of_getElem? (i := 2) rfl)
theorem tw_3 {Z : State} {a0 : Array Value} (hw : ∀ d ∈ tables_1, d.before a0 Z = true) : (Jvm.Cond.static ({ cls := "fieldglass/record/TerminatedInputIndexOfPinLaw", name := "hit", desc := "([BBIII)Z" } : Jvm.MethodName)).before a0 Z = true := hw _ (List.mem_of_getElem? (i := 3) rfl)
theorem tw_4 {Z : State} {a0 : Array Value} (hw : ∀ d ∈ tables_1, d.before a0 Z = true) : (Jvm.Cond.initialized "fieldglass/record/TerminatedInputIndexOfPinLaw").before a0 Z = true := hw _ (List.mem_of_getElem? (i := 4) rfl)
theorem tw_5 {Z : State} {a0 : Array Value} (hw : ∀ d ∈ tables_1, d.before a0 Z = true) : (Jvm.Cond.code ({ cls := "fieldglass/record/TerminatedInputIndexOfPinLaw", name := "hit", desc := "([BBIII)Z" } : Jvm.MethodName) method_2_code (5 : Nat) (Option.some Jvm.ClassFile.FieldType.boolean)).before a0 Z = true := hw _ (List.mem_of_getElem? (i := 5) rfl)
theorem tw_6 {Z : State} {a0 : Array Value} (hw : ∀ d ∈ tables_1, d.before a0 Z = true) : (Jvm.Cond.methodLink "fieldglass/record/TerminatedInputIndexOfPinLaw" (14 : Nat) ({ cls := "fieldglass/record/TerminatedInput", name := "indexOf", desc := "([BBII)I" } : Jvm.MethodName)).before a0 Z = true := hw _ (List.mem_of_getElem? (i := 6) rfl)
theorem tw_7 {Z : State} {a0 : Array Value} (hw : ∀ d ∈ tables_1, d.before a0 Z = true) : (Jvm.Cond.static ({ cls := "fieldglass/record/TerminatedInput", name := "indexOf", desc := "([BBII)I" } : Jvm.MethodName)).before a0 Z = true := hw _ (List.mem_of_getElem? (i := 7) rfl)
theorem tw_8 {Z : State} {a0 : Array Value} (hw : ∀ d ∈ tables_1, d.before a0 Z = true) : (Jvm.Cond.initialized "fieldglass/record/TerminatedInput").before a0 Z = true := hw _ (List.mem_of_getElem? (i := 8) rfl)
theorem tw_9 {Z : State} {a0 : Array Value} (hw : ∀ d ∈ tables_1, d.before a0 Z = true) : (Jvm.Cond.code ({ cls := "fieldglass/record/TerminatedInput", name := "indexOf", desc := "([BBII)I" } : Jvm.MethodName) prog_46_method_5_code (5 : Nat) (Option.some Jvm.ClassFile.FieldType.int)).before a0 Z = true := hw _ (List.mem_of_getElem? (i := 9) rfl)
theorem d1_0 : decode method_2_code 0 = .ok (.iload_n 2, 1) := by decide +kernel
theorem d1_1 : decode method_2_code 1 = .ok (.iload_n 3, 1) := by decide +kernel
theorem d1_2 : decode method_2_code 2 = .ok (.if_icmp .lt 20, 3) := by decide +kernel
theorem d1_5 : decode method_2_code 5 = .ok (.iload_n 2, 1) := by decide +kernel
theorem d1_6 : decode method_2_code 6 = .ok (.iload 4, 2) := by decide +kernel
theorem d1_8 : decode method_2_code 8 = .ok (.if_icmp .ge 14, 3) := by decide +kernel
theorem d1_11 : decode method_2_code 11 = .ok (.aload_n 0, 1) := by decide +kernel
theorem d1_12 : decode method_2_code 12 = .ok (.iload_n 2, 1) := by decide +kernel
theorem d1_13 : decode method_2_code 13 = .ok (.baload, 1) := by decide +kernel
theorem d1_14 : decode method_2_code 14 = .ok (.iload_n 1, 1) := by decide +kernel
theorem d1_15 : decode method_2_code 15 = .ok (.if_icmp .ne 7, 3) := by decide +kernel
theorem d1_18 : decode method_2_code 18 = .ok (.iconst 1, 1) := by decide +kernel
theorem d1_19 : decode method_2_code 19 = .ok (.goto 4, 3) := by decide +kernel
theorem d1_22 : decode method_2_code 22 = .ok (.iconst 0, 1) := by decide +kernel
theorem d1_23 : decode method_2_code 23 = .ok (.ireturn, 1) := by decide +kernel
theorem pn_0 : plainName "fieldglass/record/TerminatedInputIndexOfPinLaw" = true := by first | (simp [plainName, overriddenIn]; done) | decide +kernel
abbrev mN_1 : MethodName := ⟨"fieldglass/record/TerminatedInputIndexOfPinLaw", "hit", "([BBIII)Z"⟩
theorem d2_0 : decode prog_46_method_5_code 0 = .ok (.iload_n 2, 1) := by decide +kernel
theorem d2_1 : decode prog_46_method_5_code 1 = .ok (.istore 4, 2) := by decide +kernel
theorem d2_3 : decode prog_46_method_5_code 3 = .ok (.iload 4, 2) := by decide +kernel
theorem d2_5 : decode prog_46_method_5_code 5 = .ok (.iload_n 3, 1) := by decide +kernel
theorem d2_6 : decode prog_46_method_5_code 6 = .ok (.if_icmp .ge 20, 3) := by decide +kernel
theorem d2_9 : decode prog_46_method_5_code 9 = .ok (.aload_n 0, 1) := by decide +kernel
theorem d2_10 : decode prog_46_method_5_code 10 = .ok (.iload 4, 2) := by decide +kernel
theorem d2_12 : decode prog_46_method_5_code 12 = .ok (.baload, 1) := by decide +kernel
theorem d2_13 : decode prog_46_method_5_code 13 = .ok (.iload_n 1, 1) := by decide +kernel
theorem d2_14 : decode prog_46_method_5_code 14 = .ok (.if_icmp .ne 6, 3) := by decide +kernel
theorem d2_17 : decode prog_46_method_5_code 17 = .ok (.iload 4, 2) := by decide +kernel
theorem d2_19 : decode prog_46_method_5_code 19 = .ok (.ireturn, 1) := by decide +kernel
theorem d2_20 : decode prog_46_method_5_code 20 = .ok (.iinc 4 1, 3) := by decide +kernel
theorem d2_23 : decode prog_46_method_5_code 23 = .ok (.goto (-20), 3) := by decide +kernel
theorem d2_26 : decode prog_46_method_5_code 26 = .ok (.iconst (-1), 1) := by decide +kernel
theorem d2_27 : decode prog_46_method_5_code 27 = .ok (.ireturn, 1) := by decide +kernel
theorem pn_1 : plainName "fieldglass/record/TerminatedInput" = true := by first | (simp [plainName, overriddenIn]; done) | decide +kernel
abbrev mN_2 : MethodName := ⟨"fieldglass/record/TerminatedInput", "indexOf", "([BBII)I"⟩
theorem pd_0 : parseMethodDescriptor "([BBII)I" = some ⟨[(.array .byte), .byte, .int, .int], some .int⟩ := by decide +kernel
theorem pd_1 : parseMethodDescriptor "([BBIII)Z" = some ⟨[(.array .byte), .byte, .int, .int, .int], some .boolean⟩ := by decide +kernel
theorem ef_1i0 (m : MethodId) (x0 : Addr) (x1 : Int32) (x3 : Int32) (x4 : Int32) : entryFrame m #[(.ref x0), (.int x1), (.int (0 : Int32)), (.int x3), (.int x4)] 5 = mkF m 0 #[.val (.ref x0), .val (.int x1), .val (.int (0 : Int32)), .val (.int x3), .val (.int x4)] [] := by first | (simp [entryFrame, mkF, argsToLocals, Value.category]; done) | rfl
def Q1i0 (Z : State) (a : Addr) (tm : Int32) (fr : Int32) (to : Int32) (kb : ClassId) (el0 : Int32) (el1 : Int32) (el2 : Int32) (el3 : Int32) (h0 : Heap) (n0 : Nat) (v : Option Value) (h : Heap) (L : List Loc) : Prop := ∃ z : Int32, v = some (.int z) ∧ ((z.toInt = 1 ∧ (fr.toInt ≤ 0 ∧ 0 < to.toInt ∧ el0.toInt = tm.toInt)) ∨ (z.toInt = 0 ∧ ¬ (fr.toInt ≤ 0 ∧ 0 < to.toInt ∧ el0.toInt = tm.toInt))) ∧ Fr n0 L ∧ h = h0
set_option maxRecDepth 65536 in
set_option maxHeartbeats 40000000 in
theorem rm1i0 (l : Launch) (Z : State) (a0 : Array Value) (hw : ∀ d ∈ tables_1, d.before a0 Z = true) (ws : List Jvm.Cond) (a : Addr) (tm : Int32) (fr : Int32) (to : Int32) (kb : ClassId) (el0 : Int32) (el1 : Int32) (el2 : Int32) (el3 : Int32) (h0 : Heap) (n0 : Nat) (Z0 : n0 ≤ h0.size) (V_a : Arv Z h0 a kb .byte (4 : Int32) [(.int el0), (.int el1), (.int el2), (.int el3)] (.int (0 : Int32))) :
    CT l mN_1 method_2_code 5 (some .boolean) ws ({ frames := 0, cells := 0, slots := 0, locals := 0 } : Room) #[(.ref a), (.int tm), (.int (0 : Int32)), (.int fr), (.int to)] Z h0 (Q1i0 Z a tm fr to kb el0 el1 el2 el3 h0 n0) := by
  refine body_of (plainFor_of_name pn_0) ?_
  intro p e s m below meth c s₁ hx dB hret hlk hml hown0 hnm X0 e0 hZ
  have hown : s.vm.findClass cN_0 = some m.cls := hown0
  have N0 := Fr.nil n0
  rw [ef_1i0]
  show Wk p e below (FN s (Q1i0 Z a tm fr to kb el0 el1 el2 el3 h0 n0) 0 0) s₁ (mkF m 0 #[.val (.ref a), .val (.int tm), .val (.int (0 : Int32)), .val (.int fr), .val (.int to)] [])
  have r_tm := rng32 tm
  have r_fr := rng32 fr
  have r_to := rng32 to
  refine w_iloadN X0 hx (0 : Int32) (dB d1_0) 1 rfl rfl ?_
  refine w_iloadN X0 hx fr (dB d1_1) 2 rfl rfl ?_
  refine w_icmp_lt X0 hx 0 fr.toInt (by decide) rfl (dB d1_2) 22 5 (fun c1 => ?_) (fun c1 => ?_)
  ·refine w_iconst X0 hx (dB d1_22) 23 rfl (0 : Int32) (by decide) ?_
   refine w_retN X0 hx hlk (t := .boolean) hret (by simp) (dB d1_23) (by decide) (by decide) ?_
   rw [e0]
   exact ⟨(0 : Int32), rfl, by have hz : (0 : Int32).toInt = 0 := (by decide); omega, N0, rfl⟩
  ·refine w_iloadN X0 hx (0 : Int32) (dB d1_5) 6 rfl rfl ?_
   refine w_iload X0 hx to (dB d1_6) 8 rfl rfl ?_
   refine w_icmp_ge X0 hx 0 to.toInt (by decide) rfl (dB d1_8) 22 11 (fun c2 => ?_) (fun c2 => ?_)
   ·refine w_iconst X0 hx (dB d1_22) 23 rfl (0 : Int32) (by decide) ?_
    refine w_retN X0 hx hlk (t := .boolean) hret (by simp) (dB d1_23) (by decide) (by decide) ?_
    rw [e0]
    exact ⟨(0 : Int32), rfl, by have hz : (0 : Int32).toInt = 0 := (by decide); omega, N0, rfl⟩
   ·refine w_aloadN X0 hx (.ref a) (dB d1_11) 12 rfl rfl rfl ?_
    refine w_iloadN X0 hx (0 : Int32) (dB d1_12) 13 rfl rfl ?_
    refine w_baload X0 hx hZ e0 V_a ⟨by decide, by decide⟩ (v := (.int el0)) rfl (dB d1_13) 14 rfl ?_
    refine w_iloadN X0 hx tm (dB d1_14) 15 rfl rfl ?_
    refine w_icmp_ne X0 hx el0.toInt tm.toInt rfl rfl (dB d1_15) 22 18 (fun c3 => ?_) (fun c3 => ?_)
    ·refine w_iconst X0 hx (dB d1_22) 23 rfl (0 : Int32) (by decide) ?_
     refine w_retN X0 hx hlk (t := .boolean) hret (by simp) (dB d1_23) (by decide) (by decide) ?_
     rw [e0]
     exact ⟨(0 : Int32), rfl, by have hz : (0 : Int32).toInt = 0 := (by decide); omega, N0, rfl⟩
    ·refine w_iconst X0 hx (dB d1_18) 19 rfl (1 : Int32) (by decide) ?_
     refine w_goto X0 hx (dB d1_19) 23 ?_
     refine w_retN X0 hx hlk (t := .boolean) hret (by simp) (dB d1_23) (by decide) (by decide) ?_
     rw [e0]
     exact ⟨(1 : Int32), rfl, by have hz : (1 : Int32).toInt = 1 := (by decide); omega, N0, rfl⟩
theorem ef_1i1 (m : MethodId) (x0 : Addr) (x1 : Int32) (x3 : Int32) (x4 : Int32) : entryFrame m #[(.ref x0), (.int x1), (.int (1 : Int32)), (.int x3), (.int x4)] 5 = mkF m 0 #[.val (.ref x0), .val (.int x1), .val (.int (1 : Int32)), .val (.int x3), .val (.int x4)] [] := by first | (simp [entryFrame, mkF, argsToLocals, Value.category]; done) | rfl
def Q1i1 (Z : State) (a : Addr) (tm : Int32) (fr : Int32) (to : Int32) (kb : ClassId) (el0 : Int32) (el1 : Int32) (el2 : Int32) (el3 : Int32) (h0 : Heap) (n0 : Nat) (v : Option Value) (h : Heap) (L : List Loc) : Prop := ∃ z : Int32, v = some (.int z) ∧ ((z.toInt = 1 ∧ (fr.toInt ≤ 1 ∧ 1 < to.toInt ∧ el1.toInt = tm.toInt)) ∨ (z.toInt = 0 ∧ ¬ (fr.toInt ≤ 1 ∧ 1 < to.toInt ∧ el1.toInt = tm.toInt))) ∧ Fr n0 L ∧ h = h0
set_option maxRecDepth 65536 in
set_option maxHeartbeats 40000000 in
theorem rm1i1 (l : Launch) (Z : State) (a0 : Array Value) (hw : ∀ d ∈ tables_1, d.before a0 Z = true) (ws : List Jvm.Cond) (a : Addr) (tm : Int32) (fr : Int32) (to : Int32) (kb : ClassId) (el0 : Int32) (el1 : Int32) (el2 : Int32) (el3 : Int32) (h0 : Heap) (n0 : Nat) (Z0 : n0 ≤ h0.size) (V_a : Arv Z h0 a kb .byte (4 : Int32) [(.int el0), (.int el1), (.int el2), (.int el3)] (.int (0 : Int32))) :
    CT l mN_1 method_2_code 5 (some .boolean) ws ({ frames := 0, cells := 0, slots := 0, locals := 0 } : Room) #[(.ref a), (.int tm), (.int (1 : Int32)), (.int fr), (.int to)] Z h0 (Q1i1 Z a tm fr to kb el0 el1 el2 el3 h0 n0) := by
  refine body_of (plainFor_of_name pn_0) ?_
  intro p e s m below meth c s₁ hx dB hret hlk hml hown0 hnm X0 e0 hZ
  have hown : s.vm.findClass cN_0 = some m.cls := hown0
  have N0 := Fr.nil n0
  rw [ef_1i1]
  show Wk p e below (FN s (Q1i1 Z a tm fr to kb el0 el1 el2 el3 h0 n0) 0 0) s₁ (mkF m 0 #[.val (.ref a), .val (.int tm), .val (.int (1 : Int32)), .val (.int fr), .val (.int to)] [])
  have r_tm := rng32 tm
  have r_fr := rng32 fr
  have r_to := rng32 to
  refine w_iloadN X0 hx (1 : Int32) (dB d1_0) 1 rfl rfl ?_
  refine w_iloadN X0 hx fr (dB d1_1) 2 rfl rfl ?_
  refine w_icmp_lt X0 hx 1 fr.toInt (by decide) rfl (dB d1_2) 22 5 (fun c4 => ?_) (fun c4 => ?_)
  ·refine w_iconst X0 hx (dB d1_22) 23 rfl (0 : Int32) (by decide) ?_
   refine w_retN X0 hx hlk (t := .boolean) hret (by simp) (dB d1_23) (by decide) (by decide) ?_
   rw [e0]
   exact ⟨(0 : Int32), rfl, by have hz : (0 : Int32).toInt = 0 := (by decide); omega, N0, rfl⟩
  ·refine w_iloadN X0 hx (1 : Int32) (dB d1_5) 6 rfl rfl ?_
   refine w_iload X0 hx to (dB d1_6) 8 rfl rfl ?_
   refine w_icmp_ge X0 hx 1 to.toInt (by decide) rfl (dB d1_8) 22 11 (fun c5 => ?_) (fun c5 => ?_)
   ·refine w_iconst X0 hx (dB d1_22) 23 rfl (0 : Int32) (by decide) ?_
    refine w_retN X0 hx hlk (t := .boolean) hret (by simp) (dB d1_23) (by decide) (by decide) ?_
    rw [e0]
    exact ⟨(0 : Int32), rfl, by have hz : (0 : Int32).toInt = 0 := (by decide); omega, N0, rfl⟩
   ·refine w_aloadN X0 hx (.ref a) (dB d1_11) 12 rfl rfl rfl ?_
    refine w_iloadN X0 hx (1 : Int32) (dB d1_12) 13 rfl rfl ?_
    refine w_baload X0 hx hZ e0 V_a ⟨by decide, by decide⟩ (v := (.int el1)) rfl (dB d1_13) 14 rfl ?_
    refine w_iloadN X0 hx tm (dB d1_14) 15 rfl rfl ?_
    refine w_icmp_ne X0 hx el1.toInt tm.toInt rfl rfl (dB d1_15) 22 18 (fun c6 => ?_) (fun c6 => ?_)
    ·refine w_iconst X0 hx (dB d1_22) 23 rfl (0 : Int32) (by decide) ?_
     refine w_retN X0 hx hlk (t := .boolean) hret (by simp) (dB d1_23) (by decide) (by decide) ?_
     rw [e0]
     exact ⟨(0 : Int32), rfl, by have hz : (0 : Int32).toInt = 0 := (by decide); omega, N0, rfl⟩
    ·refine w_iconst X0 hx (dB d1_18) 19 rfl (1 : Int32) (by decide) ?_
     refine w_goto X0 hx (dB d1_19) 23 ?_
     refine w_retN X0 hx hlk (t := .boolean) hret (by simp) (dB d1_23) (by decide) (by decide) ?_
     rw [e0]
     exact ⟨(1 : Int32), rfl, by have hz : (1 : Int32).toInt = 1 := (by decide); omega, N0, rfl⟩
theorem ef_1i2 (m : MethodId) (x0 : Addr) (x1 : Int32) (x3 : Int32) (x4 : Int32) : entryFrame m #[(.ref x0), (.int x1), (.int (2 : Int32)), (.int x3), (.int x4)] 5 = mkF m 0 #[.val (.ref x0), .val (.int x1), .val (.int (2 : Int32)), .val (.int x3), .val (.int x4)] [] := by first | (simp [entryFrame, mkF, argsToLocals, Value.category]; done) | rfl
def Q1i2 (Z : State) (a : Addr) (tm : Int32) (fr : Int32) (to : Int32) (kb : ClassId) (el0 : Int32) (el1 : Int32) (el2 : Int32) (el3 : Int32) (h0 : Heap) (n0 : Nat) (v : Option Value) (h : Heap) (L : List Loc) : Prop := ∃ z : Int32, v = some (.int z) ∧ ((z.toInt = 1 ∧ (fr.toInt ≤ 2 ∧ 2 < to.toInt ∧ el2.toInt = tm.toInt)) ∨ (z.toInt = 0 ∧ ¬ (fr.toInt ≤ 2 ∧ 2 < to.toInt ∧ el2.toInt = tm.toInt))) ∧ Fr n0 L ∧ h = h0
set_option maxRecDepth 65536 in
set_option maxHeartbeats 40000000 in
theorem rm1i2 (l : Launch) (Z : State) (a0 : Array Value) (hw : ∀ d ∈ tables_1, d.before a0 Z = true) (ws : List Jvm.Cond) (a : Addr) (tm : Int32) (fr : Int32) (to : Int32) (kb : ClassId) (el0 : Int32) (el1 : Int32) (el2 : Int32) (el3 : Int32) (h0 : Heap) (n0 : Nat) (Z0 : n0 ≤ h0.size) (V_a : Arv Z h0 a kb .byte (4 : Int32) [(.int el0), (.int el1), (.int el2), (.int el3)] (.int (0 : Int32))) :
    CT l mN_1 method_2_code 5 (some .boolean) ws ({ frames := 0, cells := 0, slots := 0, locals := 0 } : Room) #[(.ref a), (.int tm), (.int (2 : Int32)), (.int fr), (.int to)] Z h0 (Q1i2 Z a tm fr to kb el0 el1 el2 el3 h0 n0) := by
  refine body_of (plainFor_of_name pn_0) ?_
  intro p e s m below meth c s₁ hx dB hret hlk hml hown0 hnm X0 e0 hZ
  have hown : s.vm.findClass cN_0 = some m.cls := hown0
  have N0 := Fr.nil n0
  rw [ef_1i2]
  show Wk p e below (FN s (Q1i2 Z a tm fr to kb el0 el1 el2 el3 h0 n0) 0 0) s₁ (mkF m 0 #[.val (.ref a), .val (.int tm), .val (.int (2 : Int32)), .val (.int fr), .val (.int to)] [])
  have r_tm := rng32 tm
  have r_fr := rng32 fr
  have r_to := rng32 to
  refine w_iloadN X0 hx (2 : Int32) (dB d1_0) 1 rfl rfl ?_
  refine w_iloadN X0 hx fr (dB d1_1) 2 rfl rfl ?_
  refine w_icmp_lt X0 hx 2 fr.toInt (by decide) rfl (dB d1_2) 22 5 (fun c7 => ?_) (fun c7 => ?_)
  ·refine w_iconst X0 hx (dB d1_22) 23 rfl (0 : Int32) (by decide) ?_
   refine w_retN X0 hx hlk (t := .boolean) hret (by simp) (dB d1_23) (by decide) (by decide) ?_
   rw [e0]
   exact ⟨(0 : Int32), rfl, by have hz : (0 : Int32).toInt = 0 := (by decide); omega, N0, rfl⟩
  ·refine w_iloadN X0 hx (2 : Int32) (dB d1_5) 6 rfl rfl ?_
   refine w_iload X0 hx to (dB d1_6) 8 rfl rfl ?_
   refine w_icmp_ge X0 hx 2 to.toInt (by decide) rfl (dB d1_8) 22 11 (fun c8 => ?_) (fun c8 => ?_)
   ·refine w_iconst X0 hx (dB d1_22) 23 rfl (0 : Int32) (by decide) ?_
    refine w_retN X0 hx hlk (t := .boolean) hret (by simp) (dB d1_23) (by decide) (by decide) ?_
    rw [e0]
    exact ⟨(0 : Int32), rfl, by have hz : (0 : Int32).toInt = 0 := (by decide); omega, N0, rfl⟩
   ·refine w_aloadN X0 hx (.ref a) (dB d1_11) 12 rfl rfl rfl ?_
    refine w_iloadN X0 hx (2 : Int32) (dB d1_12) 13 rfl rfl ?_
    refine w_baload X0 hx hZ e0 V_a ⟨by decide, by decide⟩ (v := (.int el2)) rfl (dB d1_13) 14 rfl ?_
    refine w_iloadN X0 hx tm (dB d1_14) 15 rfl rfl ?_
    refine w_icmp_ne X0 hx el2.toInt tm.toInt rfl rfl (dB d1_15) 22 18 (fun c9 => ?_) (fun c9 => ?_)
    ·refine w_iconst X0 hx (dB d1_22) 23 rfl (0 : Int32) (by decide) ?_
     refine w_retN X0 hx hlk (t := .boolean) hret (by simp) (dB d1_23) (by decide) (by decide) ?_
     rw [e0]
     exact ⟨(0 : Int32), rfl, by have hz : (0 : Int32).toInt = 0 := (by decide); omega, N0, rfl⟩
    ·refine w_iconst X0 hx (dB d1_18) 19 rfl (1 : Int32) (by decide) ?_
     refine w_goto X0 hx (dB d1_19) 23 ?_
     refine w_retN X0 hx hlk (t := .boolean) hret (by simp) (dB d1_23) (by decide) (by decide) ?_
     rw [e0]
     exact ⟨(1 : Int32), rfl, by have hz : (1 : Int32).toInt = 1 := (by decide); omega, N0, rfl⟩
theorem ef_1i3 (m : MethodId) (x0 : Addr) (x1 : Int32) (x3 : Int32) (x4 : Int32) : entryFrame m #[(.ref x0), (.int x1), (.int (3 : Int32)), (.int x3), (.int x4)] 5 = mkF m 0 #[.val (.ref x0), .val (.int x1), .val (.int (3 : Int32)), .val (.int x3), .val (.int x4)] [] := by first | (simp [entryFrame, mkF, argsToLocals, Value.category]; done) | rfl
def Q1i3 (Z : State) (a : Addr) (tm : Int32) (fr : Int32) (to : Int32) (kb : ClassId) (el0 : Int32) (el1 : Int32) (el2 : Int32) (el3 : Int32) (h0 : Heap) (n0 : Nat) (v : Option Value) (h : Heap) (L : List Loc) : Prop := ∃ z : Int32, v = some (.int z) ∧ ((z.toInt = 1 ∧ (fr.toInt ≤ 3 ∧ 3 < to.toInt ∧ el3.toInt = tm.toInt)) ∨ (z.toInt = 0 ∧ ¬ (fr.toInt ≤ 3 ∧ 3 < to.toInt ∧ el3.toInt = tm.toInt))) ∧ Fr n0 L ∧ h = h0
set_option maxRecDepth 65536 in
set_option maxHeartbeats 40000000 in
theorem rm1i3 (l : Launch) (Z : State) (a0 : Array Value) (hw : ∀ d ∈ tables_1, d.before a0 Z = true) (ws : List Jvm.Cond) (a : Addr) (tm : Int32) (fr : Int32) (to : Int32) (kb : ClassId) (el0 : Int32) (el1 : Int32) (el2 : Int32) (el3 : Int32) (h0 : Heap) (n0 : Nat) (Z0 : n0 ≤ h0.size) (V_a : Arv Z h0 a kb .byte (4 : Int32) [(.int el0), (.int el1), (.int el2), (.int el3)] (.int (0 : Int32))) :
    CT l mN_1 method_2_code 5 (some .boolean) ws ({ frames := 0, cells := 0, slots := 0, locals := 0 } : Room) #[(.ref a), (.int tm), (.int (3 : Int32)), (.int fr), (.int to)] Z h0 (Q1i3 Z a tm fr to kb el0 el1 el2 el3 h0 n0) := by
  refine body_of (plainFor_of_name pn_0) ?_
  intro p e s m below meth c s₁ hx dB hret hlk hml hown0 hnm X0 e0 hZ
  have hown : s.vm.findClass cN_0 = some m.cls := hown0
  have N0 := Fr.nil n0
  rw [ef_1i3]
  show Wk p e below (FN s (Q1i3 Z a tm fr to kb el0 el1 el2 el3 h0 n0) 0 0) s₁ (mkF m 0 #[.val (.ref a), .val (.int tm), .val (.int (3 : Int32)), .val (.int fr), .val (.int to)] [])
  have r_tm := rng32 tm
  have r_fr := rng32 fr
  have r_to := rng32 to
  refine w_iloadN X0 hx (3 : Int32) (dB d1_0) 1 rfl rfl ?_
  refine w_iloadN X0 hx fr (dB d1_1) 2 rfl rfl ?_
  refine w_icmp_lt X0 hx 3 fr.toInt (by decide) rfl (dB d1_2) 22 5 (fun c10 => ?_) (fun c10 => ?_)
  ·refine w_iconst X0 hx (dB d1_22) 23 rfl (0 : Int32) (by decide) ?_
   refine w_retN X0 hx hlk (t := .boolean) hret (by simp) (dB d1_23) (by decide) (by decide) ?_
   rw [e0]
   exact ⟨(0 : Int32), rfl, by have hz : (0 : Int32).toInt = 0 := (by decide); omega, N0, rfl⟩
  ·refine w_iloadN X0 hx (3 : Int32) (dB d1_5) 6 rfl rfl ?_
   refine w_iload X0 hx to (dB d1_6) 8 rfl rfl ?_
   refine w_icmp_ge X0 hx 3 to.toInt (by decide) rfl (dB d1_8) 22 11 (fun c11 => ?_) (fun c11 => ?_)
   ·refine w_iconst X0 hx (dB d1_22) 23 rfl (0 : Int32) (by decide) ?_
    refine w_retN X0 hx hlk (t := .boolean) hret (by simp) (dB d1_23) (by decide) (by decide) ?_
    rw [e0]
    exact ⟨(0 : Int32), rfl, by have hz : (0 : Int32).toInt = 0 := (by decide); omega, N0, rfl⟩
   ·refine w_aloadN X0 hx (.ref a) (dB d1_11) 12 rfl rfl rfl ?_
    refine w_iloadN X0 hx (3 : Int32) (dB d1_12) 13 rfl rfl ?_
    refine w_baload X0 hx hZ e0 V_a ⟨by decide, by decide⟩ (v := (.int el3)) rfl (dB d1_13) 14 rfl ?_
    refine w_iloadN X0 hx tm (dB d1_14) 15 rfl rfl ?_
    refine w_icmp_ne X0 hx el3.toInt tm.toInt rfl rfl (dB d1_15) 22 18 (fun c12 => ?_) (fun c12 => ?_)
    ·refine w_iconst X0 hx (dB d1_22) 23 rfl (0 : Int32) (by decide) ?_
     refine w_retN X0 hx hlk (t := .boolean) hret (by simp) (dB d1_23) (by decide) (by decide) ?_
     rw [e0]
     exact ⟨(0 : Int32), rfl, by have hz : (0 : Int32).toInt = 0 := (by decide); omega, N0, rfl⟩
    ·refine w_iconst X0 hx (dB d1_18) 19 rfl (1 : Int32) (by decide) ?_
     refine w_goto X0 hx (dB d1_19) 23 ?_
     refine w_retN X0 hx hlk (t := .boolean) hret (by simp) (dB d1_23) (by decide) (by decide) ?_
     rw [e0]
     exact ⟨(1 : Int32), rfl, by have hz : (1 : Int32).toInt = 1 := (by decide); omega, N0, rfl⟩
def own_find (tm fr to el0 el1 el2 el3 : Int) : Int :=
  if fr ≤ 0 ∧ 0 < to ∧ el0 = tm then 0 else if fr ≤ 1 ∧ 1 < to ∧ el1 = tm then 1 else if fr ≤ 2 ∧ 2 < to ∧ el2 = tm then 2 else if fr ≤ 3 ∧ 3 < to ∧ el3 = tm then 3 else -1
theorem own_no {z : Int} {P : Prop} (f : (z = 1 ∧ P) ∨ (z = 0 ∧ ¬ P)) (c : z = 0) : ¬ P := by
  rcases f with ⟨q, _⟩ | ⟨_, h⟩
  · exact absurd (q.symm.trans c) (by decide)
  · exact h
theorem own_yes {z : Int} {P : Prop} (f : (z = 1 ∧ P) ∨ (z = 0 ∧ ¬ P)) (c : ¬ z = 0) : P := by
  rcases f with ⟨_, h⟩ | ⟨q, _⟩
  · exact h
  · exact absurd q c
theorem ef_2 (m : MethodId) (x0 : Addr) (x1 : Int32) (x2 : Int32) (x3 : Int32) : entryFrame m #[(.ref x0), (.int x1), (.int x2), (.int x3)] 5 = mkF m 0 #[.val (.ref x0), .val (.int x1), .val (.int x2), .val (.int x3), .unset] [] := by first | (simp [entryFrame, mkF, argsToLocals, Value.category]; done) | rfl
def Q2 (Z : State) (a : Addr) (tm : Int32) (fr : Int32) (to : Int32) (kb : ClassId) (el0 : Int32) (el1 : Int32) (el2 : Int32) (el3 : Int32) (h0 : Heap) (n0 : Nat) (v : Option Value) (h : Heap) (L : List Loc) : Prop := ∃ z : Int32, v = some (.int z) ∧ (z.toInt = own_find (tm.toInt) (fr.toInt) (to.toInt) (el0.toInt) (el1.toInt) (el2.toInt) (el3.toInt)) ∧ Fr n0 L ∧ h = h0
set_option maxRecDepth 65536 in
set_option maxHeartbeats 40000000 in
theorem rm2 (l : Launch) (Z : State) (a0 : Array Value) (hw : ∀ d ∈ tables_1, d.before a0 Z = true) (ws : List Jvm.Cond) (a : Addr) (tm : Int32) (fr : Int32) (to : Int32) (kb : ClassId) (el0 : Int32) (el1 : Int32) (el2 : Int32) (el3 : Int32) (h0 : Heap) (n0 : Nat) (Z0 : n0 ≤ h0.size) (V_a : Arv Z h0 a kb .byte (4 : Int32) [(.int el0), (.int el1), (.int el2), (.int el3)] (.int (0 : Int32))) (p0 : 0 ≤ fr.toInt ∧ fr.toInt ≤ 4) (p1 : 0 ≤ to.toInt ∧ to.toInt ≤ 4) :
    CT l mN_2 prog_46_method_5_code 5 (some .int) ws ({ frames := 0, cells := 0, slots := 0, locals := 0 } : Room) #[(.ref a), (.int tm), (.int fr), (.int to)] Z h0 (Q2 Z a tm fr to kb el0 el1 el2 el3 h0 n0) := by
  refine body_of (plainFor_of_name pn_1) ?_
  intro p e s m below meth c s₁ hx dB hret hlk hml hown0 hnm X0 e0 hZ
  have hown : s.vm.findClass cN_1 = some m.cls := hown0
  have N0 := Fr.nil n0
  rw [ef_2]
  show Wk p e below (FN s (Q2 Z a tm fr to kb el0 el1 el2 el3 h0 n0) 0 0) s₁ (mkF m 0 #[.val (.ref a), .val (.int tm), .val (.int fr), .val (.int to), .unset] [])
  have r_tm := rng32 tm
  have r_fr := rng32 fr
  have r_to := rng32 to
  have s13 : fr.toInt = 0 ∨ fr.toInt = 1 ∨ fr.toInt = 2 ∨ fr.toInt = 3 ∨ fr.toInt = 4 := by omega
  rcases s13 with s13 | s13 | s13 | s13 | s13
  ·obtain rfl : fr = (0 : Int32) := eqI (s13.trans (by decide))
   have z13 : (0 : Int32).toInt = 0 := by decide
   refine w_iloadN X0 hx (0 : Int32) (dB d2_0) 1 rfl rfl ?_
   refine w_istore X0 hx (dB d2_1) 3 rfl #[.val (.ref a), .val (.int tm), .val (.int (0 : Int32)), .val (.int to), .val (.int (0 : Int32))] rfl ?_
   refine w_iload X0 hx (0 : Int32) (dB d2_3) 5 rfl rfl ?_
   refine w_iloadN X0 hx to (dB d2_5) 6 rfl rfl ?_
   refine w_icmp_ge X0 hx 0 to.toInt (by decide) rfl (dB d2_6) 26 9 (fun c14 => ?_) (fun c14 => ?_)
   ·refine w_iconst X0 hx (dB d2_26) 27 rfl (-1 : Int32) (by decide) ?_
    refine w_retI X0 hx hlk hret (dB d2_27) (by decide) (by decide) ?_
    rw [e0]
    exact ⟨(-1 : Int32), rfl, by have hz : (-1 : Int32).toInt = (-1) := (by decide); (unfold own_find; (repeat' split) <;> omega), N0, rfl⟩
   ·refine w_aloadN X0 hx (.ref a) (dB d2_9) 10 rfl rfl rfl ?_
    refine w_iload X0 hx (0 : Int32) (dB d2_10) 12 rfl rfl ?_
    refine w_baload X0 hx hZ e0 V_a ⟨by decide, by decide⟩ (v := (.int el0)) rfl (dB d2_12) 13 rfl ?_
    refine w_iloadN X0 hx tm (dB d2_13) 14 rfl rfl ?_
    refine w_icmp_ne X0 hx el0.toInt tm.toInt rfl rfl (dB d2_14) 20 17 (fun c15 => ?_) (fun c15 => ?_)
    ·refine w_iinc X0 hx (dB d2_20) 23 rfl rfl (1 : Int32) (by rw [(show (1 : Int32) = (0 : Int32) + (1 : Int32) from by decide)]; rfl) #[.val (.ref a), .val (.int tm), .val (.int (0 : Int32)), .val (.int to), .val (.int (1 : Int32))] rfl ?_
     refine w_goto X0 hx (dB d2_23) 3 ?_
     refine w_iload X0 hx (1 : Int32) (dB d2_3) 5 rfl rfl ?_
     refine w_iloadN X0 hx to (dB d2_5) 6 rfl rfl ?_
     refine w_icmp_ge X0 hx 1 to.toInt (by decide) rfl (dB d2_6) 26 9 (fun c16 => ?_) (fun c16 => ?_)
     ·refine w_iconst X0 hx (dB d2_26) 27 rfl (-1 : Int32) (by decide) ?_
      refine w_retI X0 hx hlk hret (dB d2_27) (by decide) (by decide) ?_
      rw [e0]
      exact ⟨(-1 : Int32), rfl, by have hz : (-1 : Int32).toInt = (-1) := (by decide); (unfold own_find; (repeat' split) <;> omega), N0, rfl⟩
     ·refine w_aloadN X0 hx (.ref a) (dB d2_9) 10 rfl rfl rfl ?_
      refine w_iload X0 hx (1 : Int32) (dB d2_10) 12 rfl rfl ?_
      refine w_baload X0 hx hZ e0 V_a ⟨by decide, by decide⟩ (v := (.int el1)) rfl (dB d2_12) 13 rfl ?_
      refine w_iloadN X0 hx tm (dB d2_13) 14 rfl rfl ?_
      refine w_icmp_ne X0 hx el1.toInt tm.toInt rfl rfl (dB d2_14) 20 17 (fun c17 => ?_) (fun c17 => ?_)
      ·refine w_iinc X0 hx (dB d2_20) 23 rfl rfl (2 : Int32) (by rw [(show (2 : Int32) = (1 : Int32) + (1 : Int32) from by decide)]; rfl) #[.val (.ref a), .val (.int tm), .val (.int (0 : Int32)), .val (.int to), .val (.int (2 : Int32))] rfl ?_
       refine w_goto X0 hx (dB d2_23) 3 ?_
       refine w_iload X0 hx (2 : Int32) (dB d2_3) 5 rfl rfl ?_
       refine w_iloadN X0 hx to (dB d2_5) 6 rfl rfl ?_
       refine w_icmp_ge X0 hx 2 to.toInt (by decide) rfl (dB d2_6) 26 9 (fun c18 => ?_) (fun c18 => ?_)
       ·refine w_iconst X0 hx (dB d2_26) 27 rfl (-1 : Int32) (by decide) ?_
        refine w_retI X0 hx hlk hret (dB d2_27) (by decide) (by decide) ?_
        rw [e0]
        exact ⟨(-1 : Int32), rfl, by have hz : (-1 : Int32).toInt = (-1) := (by decide); (unfold own_find; (repeat' split) <;> omega), N0, rfl⟩
       ·refine w_aloadN X0 hx (.ref a) (dB d2_9) 10 rfl rfl rfl ?_
        refine w_iload X0 hx (2 : Int32) (dB d2_10) 12 rfl rfl ?_
        refine w_baload X0 hx hZ e0 V_a ⟨by decide, by decide⟩ (v := (.int el2)) rfl (dB d2_12) 13 rfl ?_
        refine w_iloadN X0 hx tm (dB d2_13) 14 rfl rfl ?_
        refine w_icmp_ne X0 hx el2.toInt tm.toInt rfl rfl (dB d2_14) 20 17 (fun c19 => ?_) (fun c19 => ?_)
        ·refine w_iinc X0 hx (dB d2_20) 23 rfl rfl (3 : Int32) (by rw [(show (3 : Int32) = (2 : Int32) + (1 : Int32) from by decide)]; rfl) #[.val (.ref a), .val (.int tm), .val (.int (0 : Int32)), .val (.int to), .val (.int (3 : Int32))] rfl ?_
         refine w_goto X0 hx (dB d2_23) 3 ?_
         refine w_iload X0 hx (3 : Int32) (dB d2_3) 5 rfl rfl ?_
         refine w_iloadN X0 hx to (dB d2_5) 6 rfl rfl ?_
         refine w_icmp_ge X0 hx 3 to.toInt (by decide) rfl (dB d2_6) 26 9 (fun c20 => ?_) (fun c20 => ?_)
         ·refine w_iconst X0 hx (dB d2_26) 27 rfl (-1 : Int32) (by decide) ?_
          refine w_retI X0 hx hlk hret (dB d2_27) (by decide) (by decide) ?_
          rw [e0]
          exact ⟨(-1 : Int32), rfl, by have hz : (-1 : Int32).toInt = (-1) := (by decide); (unfold own_find; (repeat' split) <;> omega), N0, rfl⟩
         ·refine w_aloadN X0 hx (.ref a) (dB d2_9) 10 rfl rfl rfl ?_
          refine w_iload X0 hx (3 : Int32) (dB d2_10) 12 rfl rfl ?_
          refine w_baload X0 hx hZ e0 V_a ⟨by decide, by decide⟩ (v := (.int el3)) rfl (dB d2_12) 13 rfl ?_
          refine w_iloadN X0 hx tm (dB d2_13) 14 rfl rfl ?_
          refine w_icmp_ne X0 hx el3.toInt tm.toInt rfl rfl (dB d2_14) 20 17 (fun c21 => ?_) (fun c21 => ?_)
          ·refine w_iinc X0 hx (dB d2_20) 23 rfl rfl (4 : Int32) (by rw [(show (4 : Int32) = (3 : Int32) + (1 : Int32) from by decide)]; rfl) #[.val (.ref a), .val (.int tm), .val (.int (0 : Int32)), .val (.int to), .val (.int (4 : Int32))] rfl ?_
           refine w_goto X0 hx (dB d2_23) 3 ?_
           refine w_iload X0 hx (4 : Int32) (dB d2_3) 5 rfl rfl ?_
           refine w_iloadN X0 hx to (dB d2_5) 6 rfl rfl ?_
           refine w_icmp_ge X0 hx 4 to.toInt (by decide) rfl (dB d2_6) 26 9 (fun c22 => ?_) (fun c22 => ?_)
           ·refine w_iconst X0 hx (dB d2_26) 27 rfl (-1 : Int32) (by decide) ?_
            refine w_retI X0 hx hlk hret (dB d2_27) (by decide) (by decide) ?_
            rw [e0]
            exact ⟨(-1 : Int32), rfl, by have hz : (-1 : Int32).toInt = (-1) := (by decide); (unfold own_find; (repeat' split) <;> omega), N0, rfl⟩
           ·exfalso; omega
          ·refine w_iload X0 hx (3 : Int32) (dB d2_17) 19 rfl rfl ?_
           refine w_retI X0 hx hlk hret (dB d2_19) (by decide) (by decide) ?_
           rw [e0]
           exact ⟨(3 : Int32), rfl, by have hz : (3 : Int32).toInt = 3 := (by decide); (unfold own_find; (repeat' split) <;> omega), N0, rfl⟩
        ·refine w_iload X0 hx (2 : Int32) (dB d2_17) 19 rfl rfl ?_
         refine w_retI X0 hx hlk hret (dB d2_19) (by decide) (by decide) ?_
         rw [e0]
         exact ⟨(2 : Int32), rfl, by have hz : (2 : Int32).toInt = 2 := (by decide); (unfold own_find; (repeat' split) <;> omega), N0, rfl⟩
      ·refine w_iload X0 hx (1 : Int32) (dB d2_17) 19 rfl rfl ?_
       refine w_retI X0 hx hlk hret (dB d2_19) (by decide) (by decide) ?_
       rw [e0]
       exact ⟨(1 : Int32), rfl, by have hz : (1 : Int32).toInt = 1 := (by decide); (unfold own_find; (repeat' split) <;> omega), N0, rfl⟩
    ·refine w_iload X0 hx (0 : Int32) (dB d2_17) 19 rfl rfl ?_
     refine w_retI X0 hx hlk hret (dB d2_19) (by decide) (by decide) ?_
     rw [e0]
     exact ⟨(0 : Int32), rfl, by have hz : (0 : Int32).toInt = 0 := (by decide); (unfold own_find; (repeat' split) <;> omega), N0, rfl⟩
  ·obtain rfl : fr = (1 : Int32) := eqI (s13.trans (by decide))
   have z13 : (1 : Int32).toInt = 1 := by decide
   refine w_iloadN X0 hx (1 : Int32) (dB d2_0) 1 rfl rfl ?_
   refine w_istore X0 hx (dB d2_1) 3 rfl #[.val (.ref a), .val (.int tm), .val (.int (1 : Int32)), .val (.int to), .val (.int (1 : Int32))] rfl ?_
   refine w_iload X0 hx (1 : Int32) (dB d2_3) 5 rfl rfl ?_
   refine w_iloadN X0 hx to (dB d2_5) 6 rfl rfl ?_
   refine w_icmp_ge X0 hx 1 to.toInt (by decide) rfl (dB d2_6) 26 9 (fun c23 => ?_) (fun c23 => ?_)
   ·refine w_iconst X0 hx (dB d2_26) 27 rfl (-1 : Int32) (by decide) ?_
    refine w_retI X0 hx hlk hret (dB d2_27) (by decide) (by decide) ?_
    rw [e0]
    exact ⟨(-1 : Int32), rfl, by have hz : (-1 : Int32).toInt = (-1) := (by decide); (unfold own_find; (repeat' split) <;> omega), N0, rfl⟩
   ·refine w_aloadN X0 hx (.ref a) (dB d2_9) 10 rfl rfl rfl ?_
    refine w_iload X0 hx (1 : Int32) (dB d2_10) 12 rfl rfl ?_
    refine w_baload X0 hx hZ e0 V_a ⟨by decide, by decide⟩ (v := (.int el1)) rfl (dB d2_12) 13 rfl ?_
    refine w_iloadN X0 hx tm (dB d2_13) 14 rfl rfl ?_
    refine w_icmp_ne X0 hx el1.toInt tm.toInt rfl rfl (dB d2_14) 20 17 (fun c24 => ?_) (fun c24 => ?_)
    ·refine w_iinc X0 hx (dB d2_20) 23 rfl rfl (2 : Int32) (by rw [(show (2 : Int32) = (1 : Int32) + (1 : Int32) from by decide)]; rfl) #[.val (.ref a), .val (.int tm), .val (.int (1 : Int32)), .val (.int to), .val (.int (2 : Int32))] rfl ?_
     refine w_goto X0 hx (dB d2_23) 3 ?_
     refine w_iload X0 hx (2 : Int32) (dB d2_3) 5 rfl rfl ?_
     refine w_iloadN X0 hx to (dB d2_5) 6 rfl rfl ?_
     refine w_icmp_ge X0 hx 2 to.toInt (by decide) rfl (dB d2_6) 26 9 (fun c25 => ?_) (fun c25 => ?_)
     ·refine w_iconst X0 hx (dB d2_26) 27 rfl (-1 : Int32) (by decide) ?_
      refine w_retI X0 hx hlk hret (dB d2_27) (by decide) (by decide) ?_
      rw [e0]
      exact ⟨(-1 : Int32), rfl, by have hz : (-1 : Int32).toInt = (-1) := (by decide); (unfold own_find; (repeat' split) <;> omega), N0, rfl⟩
     ·refine w_aloadN X0 hx (.ref a) (dB d2_9) 10 rfl rfl rfl ?_
      refine w_iload X0 hx (2 : Int32) (dB d2_10) 12 rfl rfl ?_
      refine w_baload X0 hx hZ e0 V_a ⟨by decide, by decide⟩ (v := (.int el2)) rfl (dB d2_12) 13 rfl ?_
      refine w_iloadN X0 hx tm (dB d2_13) 14 rfl rfl ?_
      refine w_icmp_ne X0 hx el2.toInt tm.toInt rfl rfl (dB d2_14) 20 17 (fun c26 => ?_) (fun c26 => ?_)
      ·refine w_iinc X0 hx (dB d2_20) 23 rfl rfl (3 : Int32) (by rw [(show (3 : Int32) = (2 : Int32) + (1 : Int32) from by decide)]; rfl) #[.val (.ref a), .val (.int tm), .val (.int (1 : Int32)), .val (.int to), .val (.int (3 : Int32))] rfl ?_
       refine w_goto X0 hx (dB d2_23) 3 ?_
       refine w_iload X0 hx (3 : Int32) (dB d2_3) 5 rfl rfl ?_
       refine w_iloadN X0 hx to (dB d2_5) 6 rfl rfl ?_
       refine w_icmp_ge X0 hx 3 to.toInt (by decide) rfl (dB d2_6) 26 9 (fun c27 => ?_) (fun c27 => ?_)
       ·refine w_iconst X0 hx (dB d2_26) 27 rfl (-1 : Int32) (by decide) ?_
        refine w_retI X0 hx hlk hret (dB d2_27) (by decide) (by decide) ?_
        rw [e0]
        exact ⟨(-1 : Int32), rfl, by have hz : (-1 : Int32).toInt = (-1) := (by decide); (unfold own_find; (repeat' split) <;> omega), N0, rfl⟩
       ·refine w_aloadN X0 hx (.ref a) (dB d2_9) 10 rfl rfl rfl ?_
        refine w_iload X0 hx (3 : Int32) (dB d2_10) 12 rfl rfl ?_
        refine w_baload X0 hx hZ e0 V_a ⟨by decide, by decide⟩ (v := (.int el3)) rfl (dB d2_12) 13 rfl ?_
        refine w_iloadN X0 hx tm (dB d2_13) 14 rfl rfl ?_
        refine w_icmp_ne X0 hx el3.toInt tm.toInt rfl rfl (dB d2_14) 20 17 (fun c28 => ?_) (fun c28 => ?_)
        ·refine w_iinc X0 hx (dB d2_20) 23 rfl rfl (4 : Int32) (by rw [(show (4 : Int32) = (3 : Int32) + (1 : Int32) from by decide)]; rfl) #[.val (.ref a), .val (.int tm), .val (.int (1 : Int32)), .val (.int to), .val (.int (4 : Int32))] rfl ?_
         refine w_goto X0 hx (dB d2_23) 3 ?_
         refine w_iload X0 hx (4 : Int32) (dB d2_3) 5 rfl rfl ?_
         refine w_iloadN X0 hx to (dB d2_5) 6 rfl rfl ?_
         refine w_icmp_ge X0 hx 4 to.toInt (by decide) rfl (dB d2_6) 26 9 (fun c29 => ?_) (fun c29 => ?_)
         ·refine w_iconst X0 hx (dB d2_26) 27 rfl (-1 : Int32) (by decide) ?_
          refine w_retI X0 hx hlk hret (dB d2_27) (by decide) (by decide) ?_
          rw [e0]
          exact ⟨(-1 : Int32), rfl, by have hz : (-1 : Int32).toInt = (-1) := (by decide); (unfold own_find; (repeat' split) <;> omega), N0, rfl⟩
         ·exfalso; omega
        ·refine w_iload X0 hx (3 : Int32) (dB d2_17) 19 rfl rfl ?_
         refine w_retI X0 hx hlk hret (dB d2_19) (by decide) (by decide) ?_
         rw [e0]
         exact ⟨(3 : Int32), rfl, by have hz : (3 : Int32).toInt = 3 := (by decide); (unfold own_find; (repeat' split) <;> omega), N0, rfl⟩
      ·refine w_iload X0 hx (2 : Int32) (dB d2_17) 19 rfl rfl ?_
       refine w_retI X0 hx hlk hret (dB d2_19) (by decide) (by decide) ?_
       rw [e0]
       exact ⟨(2 : Int32), rfl, by have hz : (2 : Int32).toInt = 2 := (by decide); (unfold own_find; (repeat' split) <;> omega), N0, rfl⟩
    ·refine w_iload X0 hx (1 : Int32) (dB d2_17) 19 rfl rfl ?_
     refine w_retI X0 hx hlk hret (dB d2_19) (by decide) (by decide) ?_
     rw [e0]
     exact ⟨(1 : Int32), rfl, by have hz : (1 : Int32).toInt = 1 := (by decide); (unfold own_find; (repeat' split) <;> omega), N0, rfl⟩
  ·obtain rfl : fr = (2 : Int32) := eqI (s13.trans (by decide))
   have z13 : (2 : Int32).toInt = 2 := by decide
   refine w_iloadN X0 hx (2 : Int32) (dB d2_0) 1 rfl rfl ?_
   refine w_istore X0 hx (dB d2_1) 3 rfl #[.val (.ref a), .val (.int tm), .val (.int (2 : Int32)), .val (.int to), .val (.int (2 : Int32))] rfl ?_
   refine w_iload X0 hx (2 : Int32) (dB d2_3) 5 rfl rfl ?_
   refine w_iloadN X0 hx to (dB d2_5) 6 rfl rfl ?_
   refine w_icmp_ge X0 hx 2 to.toInt (by decide) rfl (dB d2_6) 26 9 (fun c30 => ?_) (fun c30 => ?_)
   ·refine w_iconst X0 hx (dB d2_26) 27 rfl (-1 : Int32) (by decide) ?_
    refine w_retI X0 hx hlk hret (dB d2_27) (by decide) (by decide) ?_
    rw [e0]
    exact ⟨(-1 : Int32), rfl, by have hz : (-1 : Int32).toInt = (-1) := (by decide); (unfold own_find; (repeat' split) <;> omega), N0, rfl⟩
   ·refine w_aloadN X0 hx (.ref a) (dB d2_9) 10 rfl rfl rfl ?_
    refine w_iload X0 hx (2 : Int32) (dB d2_10) 12 rfl rfl ?_
    refine w_baload X0 hx hZ e0 V_a ⟨by decide, by decide⟩ (v := (.int el2)) rfl (dB d2_12) 13 rfl ?_
    refine w_iloadN X0 hx tm (dB d2_13) 14 rfl rfl ?_
    refine w_icmp_ne X0 hx el2.toInt tm.toInt rfl rfl (dB d2_14) 20 17 (fun c31 => ?_) (fun c31 => ?_)
    ·refine w_iinc X0 hx (dB d2_20) 23 rfl rfl (3 : Int32) (by rw [(show (3 : Int32) = (2 : Int32) + (1 : Int32) from by decide)]; rfl) #[.val (.ref a), .val (.int tm), .val (.int (2 : Int32)), .val (.int to), .val (.int (3 : Int32))] rfl ?_
     refine w_goto X0 hx (dB d2_23) 3 ?_
     refine w_iload X0 hx (3 : Int32) (dB d2_3) 5 rfl rfl ?_
     refine w_iloadN X0 hx to (dB d2_5) 6 rfl rfl ?_
     refine w_icmp_ge X0 hx 3 to.toInt (by decide) rfl (dB d2_6) 26 9 (fun c32 => ?_) (fun c32 => ?_)
     ·refine w_iconst X0 hx (dB d2_26) 27 rfl (-1 : Int32) (by decide) ?_
      refine w_retI X0 hx hlk hret (dB d2_27) (by decide) (by decide) ?_
      rw [e0]
      exact ⟨(-1 : Int32), rfl, by have hz : (-1 : Int32).toInt = (-1) := (by decide); (unfold own_find; (repeat' split) <;> omega), N0, rfl⟩
     ·refine w_aloadN X0 hx (.ref a) (dB d2_9) 10 rfl rfl rfl ?_
      refine w_iload X0 hx (3 : Int32) (dB d2_10) 12 rfl rfl ?_
      refine w_baload X0 hx hZ e0 V_a ⟨by decide, by decide⟩ (v := (.int el3)) rfl (dB d2_12) 13 rfl ?_
      refine w_iloadN X0 hx tm (dB d2_13) 14 rfl rfl ?_
      refine w_icmp_ne X0 hx el3.toInt tm.toInt rfl rfl (dB d2_14) 20 17 (fun c33 => ?_) (fun c33 => ?_)
      ·refine w_iinc X0 hx (dB d2_20) 23 rfl rfl (4 : Int32) (by rw [(show (4 : Int32) = (3 : Int32) + (1 : Int32) from by decide)]; rfl) #[.val (.ref a), .val (.int tm), .val (.int (2 : Int32)), .val (.int to), .val (.int (4 : Int32))] rfl ?_
       refine w_goto X0 hx (dB d2_23) 3 ?_
       refine w_iload X0 hx (4 : Int32) (dB d2_3) 5 rfl rfl ?_
       refine w_iloadN X0 hx to (dB d2_5) 6 rfl rfl ?_
       refine w_icmp_ge X0 hx 4 to.toInt (by decide) rfl (dB d2_6) 26 9 (fun c34 => ?_) (fun c34 => ?_)
       ·refine w_iconst X0 hx (dB d2_26) 27 rfl (-1 : Int32) (by decide) ?_
        refine w_retI X0 hx hlk hret (dB d2_27) (by decide) (by decide) ?_
        rw [e0]
        exact ⟨(-1 : Int32), rfl, by have hz : (-1 : Int32).toInt = (-1) := (by decide); (unfold own_find; (repeat' split) <;> omega), N0, rfl⟩
       ·exfalso; omega
      ·refine w_iload X0 hx (3 : Int32) (dB d2_17) 19 rfl rfl ?_
       refine w_retI X0 hx hlk hret (dB d2_19) (by decide) (by decide) ?_
       rw [e0]
       exact ⟨(3 : Int32), rfl, by have hz : (3 : Int32).toInt = 3 := (by decide); (unfold own_find; (repeat' split) <;> omega), N0, rfl⟩
    ·refine w_iload X0 hx (2 : Int32) (dB d2_17) 19 rfl rfl ?_
     refine w_retI X0 hx hlk hret (dB d2_19) (by decide) (by decide) ?_
     rw [e0]
     exact ⟨(2 : Int32), rfl, by have hz : (2 : Int32).toInt = 2 := (by decide); (unfold own_find; (repeat' split) <;> omega), N0, rfl⟩
  ·obtain rfl : fr = (3 : Int32) := eqI (s13.trans (by decide))
   have z13 : (3 : Int32).toInt = 3 := by decide
   refine w_iloadN X0 hx (3 : Int32) (dB d2_0) 1 rfl rfl ?_
   refine w_istore X0 hx (dB d2_1) 3 rfl #[.val (.ref a), .val (.int tm), .val (.int (3 : Int32)), .val (.int to), .val (.int (3 : Int32))] rfl ?_
   refine w_iload X0 hx (3 : Int32) (dB d2_3) 5 rfl rfl ?_
   refine w_iloadN X0 hx to (dB d2_5) 6 rfl rfl ?_
   refine w_icmp_ge X0 hx 3 to.toInt (by decide) rfl (dB d2_6) 26 9 (fun c35 => ?_) (fun c35 => ?_)
   ·refine w_iconst X0 hx (dB d2_26) 27 rfl (-1 : Int32) (by decide) ?_
    refine w_retI X0 hx hlk hret (dB d2_27) (by decide) (by decide) ?_
    rw [e0]
    exact ⟨(-1 : Int32), rfl, by have hz : (-1 : Int32).toInt = (-1) := (by decide); (unfold own_find; (repeat' split) <;> omega), N0, rfl⟩
   ·refine w_aloadN X0 hx (.ref a) (dB d2_9) 10 rfl rfl rfl ?_
    refine w_iload X0 hx (3 : Int32) (dB d2_10) 12 rfl rfl ?_
    refine w_baload X0 hx hZ e0 V_a ⟨by decide, by decide⟩ (v := (.int el3)) rfl (dB d2_12) 13 rfl ?_
    refine w_iloadN X0 hx tm (dB d2_13) 14 rfl rfl ?_
    refine w_icmp_ne X0 hx el3.toInt tm.toInt rfl rfl (dB d2_14) 20 17 (fun c36 => ?_) (fun c36 => ?_)
    ·refine w_iinc X0 hx (dB d2_20) 23 rfl rfl (4 : Int32) (by rw [(show (4 : Int32) = (3 : Int32) + (1 : Int32) from by decide)]; rfl) #[.val (.ref a), .val (.int tm), .val (.int (3 : Int32)), .val (.int to), .val (.int (4 : Int32))] rfl ?_
     refine w_goto X0 hx (dB d2_23) 3 ?_
     refine w_iload X0 hx (4 : Int32) (dB d2_3) 5 rfl rfl ?_
     refine w_iloadN X0 hx to (dB d2_5) 6 rfl rfl ?_
     refine w_icmp_ge X0 hx 4 to.toInt (by decide) rfl (dB d2_6) 26 9 (fun c37 => ?_) (fun c37 => ?_)
     ·refine w_iconst X0 hx (dB d2_26) 27 rfl (-1 : Int32) (by decide) ?_
      refine w_retI X0 hx hlk hret (dB d2_27) (by decide) (by decide) ?_
      rw [e0]
      exact ⟨(-1 : Int32), rfl, by have hz : (-1 : Int32).toInt = (-1) := (by decide); (unfold own_find; (repeat' split) <;> omega), N0, rfl⟩
     ·exfalso; omega
    ·refine w_iload X0 hx (3 : Int32) (dB d2_17) 19 rfl rfl ?_
     refine w_retI X0 hx hlk hret (dB d2_19) (by decide) (by decide) ?_
     rw [e0]
     exact ⟨(3 : Int32), rfl, by have hz : (3 : Int32).toInt = 3 := (by decide); (unfold own_find; (repeat' split) <;> omega), N0, rfl⟩
  ·obtain rfl : fr = (4 : Int32) := eqI (s13.trans (by decide))
   have z13 : (4 : Int32).toInt = 4 := by decide
   refine w_iloadN X0 hx (4 : Int32) (dB d2_0) 1 rfl rfl ?_
   refine w_istore X0 hx (dB d2_1) 3 rfl #[.val (.ref a), .val (.int tm), .val (.int (4 : Int32)), .val (.int to), .val (.int (4 : Int32))] rfl ?_
   refine w_iload X0 hx (4 : Int32) (dB d2_3) 5 rfl rfl ?_
   refine w_iloadN X0 hx to (dB d2_5) 6 rfl rfl ?_
   refine w_icmp_ge X0 hx 4 to.toInt (by decide) rfl (dB d2_6) 26 9 (fun c38 => ?_) (fun c38 => ?_)
   ·refine w_iconst X0 hx (dB d2_26) 27 rfl (-1 : Int32) (by decide) ?_
    refine w_retI X0 hx hlk hret (dB d2_27) (by decide) (by decide) ?_
    rw [e0]
    exact ⟨(-1 : Int32), rfl, by have hz : (-1 : Int32).toInt = (-1) := (by decide); (unfold own_find; (repeat' split) <;> omega), N0, rfl⟩
   ·exfalso; omega
theorem ef_0 (m : MethodId) (x0 : Int32) (x1 : Int32) (x2 : Int32) (x3 : Int32) : entryFrame m #[(.int x0), (.int x1), (.int x2), (.int x3)] maxLocals = mkF m 0 #[.val (.int x0), .val (.int x1), .val (.int x2), .val (.int x3), .unset, .unset, .unset, .unset, .unset, .unset, .unset, .unset, .unset, .unset, .unset] [] := by first | (simp [entryFrame, mkF, argsToLocals, Value.category, maxLocals]; done) | rfl
def Q0 (Z : State) (b : Int32) (t : Int32) (f : Int32) (g : Int32) (h0 : Heap) (n0 : Nat) (v : Option Value) (h : Heap) (L : List Loc) : Prop := v = some (.int 1) ∧ Fr n0 L
set_option maxRecDepth 65536 in
set_option maxHeartbeats 40000000 in
theorem rm0 (l : Launch) (Z : State) (a0 : Array Value) (hw : ∀ d ∈ tables_1, d.before a0 Z = true) (ws : List Jvm.Cond) (b : Int32) (t : Int32) (f : Int32) (g : Int32) (h0 : Heap) (n0 : Nat) (Z0 : n0 ≤ h0.size) :
    MetFree l x (head1 (Jvm.Cond.code x code maxLocals ret :: ws) room_1) (fun as_ U => as_ = #[(.int b), (.int t), (.int f), (.int g)] ∧ Z.Warmed39 U.vm ∧ U.heap = h0) (fun _ _ _ _ _ => True) (fun _ U o U' => ∃ v L, o = .returned v ∧ Q0 Z b t f g h0 n0 v U'.heap L ∧ FrameEnd U o U' L 1 4) := by
  refine body_of (plainFor_of_name pn_0) ?_
  intro p e s m below meth c s₁ hx dB hret hlk hml hown0 hnm X0 e0 hZ
  have hown : s.vm.findClass cN_0 = some m.cls := hown0
  have N0 := Fr.nil n0
  rw [ef_0]
  show Wk p e below (FN s (Q0 Z b t f g h0 n0) 1 4) s₁ (mkF m 0 #[.val (.int b), .val (.int t), .val (.int f), .val (.int g), .unset, .unset, .unset, .unset, .unset, .unset, .unset, .unset, .unset, .unset, .unset] [])
  have r_b := rng32 b
  have r_t := rng32 t
  have r_f := rng32 f
  have r_g := rng32 g
  refine w_iloadN X0 hx b (dB at_0) 1 rfl rfl ?_
  obtain ⟨v39, e39⟩ : ∃ z : Int32, z = b.toInt8.toInt32 := ⟨_, rfl⟩
  have n39 : (v39.toInt - b.toInt) % 256 = 0 ∧ -128 ≤ v39.toInt ∧ v39.toInt < 128 := by rw [e39]; exact i2bX rfl
  refine w_i2b X0 hx (dB at_1) 2 rfl e39 ?_
  refine w_istore X0 hx (dB at_2) 4 rfl #[.val (.int b), .val (.int t), .val (.int f), .val (.int g), .val (.int v39), .unset, .unset, .unset, .unset, .unset, .unset, .unset, .unset, .unset, .unset] rfl ?_
  refine w_iloadN X0 hx b (dB at_4) 5 rfl rfl ?_
  refine w_bipush X0 hx (dB at_5) 7 rfl (8 : Int32) (by decide) ?_
  obtain ⟨v40, e40⟩ : ∃ z : Int32, z = (b.toUInt32 >>> ((8 : Int32) &&& 31).toUInt32).toInt32 := ⟨_, rfl⟩
  have n40 : v40.toInt = (b.toInt % 4294967296) / 256 := by rw [e40]; exact iushrX 8 rfl (by decide) (by decide)
  refine w_iushr X0 hx (dB at_7) 8 rfl e40 ?_
  obtain ⟨v41, e41⟩ : ∃ z : Int32, z = v40.toInt8.toInt32 := ⟨_, rfl⟩
  have n41 : (v41.toInt - v40.toInt) % 256 = 0 ∧ -128 ≤ v41.toInt ∧ v41.toInt < 128 := by rw [e41]; exact i2bX rfl
  refine w_i2b X0 hx (dB at_8) 9 rfl e41 ?_
  refine w_istore X0 hx (dB at_9) 11 rfl #[.val (.int b), .val (.int t), .val (.int f), .val (.int g), .val (.int v39), .val (.int v41), .unset, .unset, .unset, .unset, .unset, .unset, .unset, .unset, .unset] rfl ?_
  refine w_iloadN X0 hx b (dB at_11) 12 rfl rfl ?_
  refine w_bipush X0 hx (dB at_12) 14 rfl (16 : Int32) (by decide) ?_
  obtain ⟨v42, e42⟩ : ∃ z : Int32, z = (b.toUInt32 >>> ((16 : Int32) &&& 31).toUInt32).toInt32 := ⟨_, rfl⟩
  have n42 : v42.toInt = (b.toInt % 4294967296) / 65536 := by rw [e42]; exact iushrX 16 rfl (by decide) (by decide)
  refine w_iushr X0 hx (dB at_14) 15 rfl e42 ?_
  obtain ⟨v43, e43⟩ : ∃ z : Int32, z = v42.toInt8.toInt32 := ⟨_, rfl⟩
  have n43 : (v43.toInt - v42.toInt) % 256 = 0 ∧ -128 ≤ v43.toInt ∧ v43.toInt < 128 := by rw [e43]; exact i2bX rfl
  refine w_i2b X0 hx (dB at_15) 16 rfl e43 ?_
  refine w_istore X0 hx (dB at_16) 18 rfl #[.val (.int b), .val (.int t), .val (.int f), .val (.int g), .val (.int v39), .val (.int v41), .val (.int v43), .unset, .unset, .unset, .unset, .unset, .unset, .unset, .unset] rfl ?_
  refine w_iloadN X0 hx b (dB at_18) 19 rfl rfl ?_
  refine w_bipush X0 hx (dB at_19) 21 rfl (24 : Int32) (by decide) ?_
  obtain ⟨v44, e44⟩ : ∃ z : Int32, z = (b.toUInt32 >>> ((24 : Int32) &&& 31).toUInt32).toInt32 := ⟨_, rfl⟩
  have n44 : v44.toInt = (b.toInt % 4294967296) / 16777216 := by rw [e44]; exact iushrX 24 rfl (by decide) (by decide)
  refine w_iushr X0 hx (dB at_21) 22 rfl e44 ?_
  obtain ⟨v45, e45⟩ : ∃ z : Int32, z = v44.toInt8.toInt32 := ⟨_, rfl⟩
  have n45 : (v45.toInt - v44.toInt) % 256 = 0 ∧ -128 ≤ v45.toInt ∧ v45.toInt < 128 := by rw [e45]; exact i2bX rfl
  refine w_i2b X0 hx (dB at_22) 23 rfl e45 ?_
  refine w_istore X0 hx (dB at_23) 25 rfl #[.val (.int b), .val (.int t), .val (.int f), .val (.int g), .val (.int v39), .val (.int v41), .val (.int v43), .val (.int v45), .unset, .unset, .unset, .unset, .unset, .unset, .unset] rfl ?_
  refine w_iconst X0 hx (dB at_25) 26 rfl (4 : Int32) (by decide) ?_
  refine w_newP X0 hx hZ e0 (aty := .byte) (tw_0 hw) (by decide) 4 (by decide) (by decide) (by decide) (by decide) (dB at_26) 28 rfl (fun T46 h46 a46 k46 X46 e46 g46 E46 A46 => ?_)
  have g_a46 : n0 ≤ a46 := Nat.le_trans Z0 (Nat.le_of_eq g46.symm)
  have s_a46 : h0.size ≤ a46 := Nat.le_trans (Keep.refl h0 []).1 (Nat.le_of_eq g46.symm)
  have Z46 : n0 ≤ h46.size := Nat.le_trans Z0 E46.1
  have K46 : Keep h0 h46 [] := (Keep.refl h0 []).ext E46
  have V46 : Arv Z h46 a46 k46 .byte (4 : Int32) [(.int (0 : Int32)), (.int (0 : Int32)), (.int (0 : Int32)), (.int (0 : Int32))] (.int (0 : Int32)) := A46.pad (pad_rep [] (.int (0 : Int32)) 4)
  refine w_astore X46 hx (dB at_28) 30 rfl rfl #[.val (.int b), .val (.int t), .val (.int f), .val (.int g), .val (.int v39), .val (.int v41), .val (.int v43), .val (.int v45), .val (.ref a46), .unset, .unset, .unset, .unset, .unset, .unset] rfl ?_
  refine w_aload X46 hx (.ref a46) (dB at_30) 32 rfl rfl rfl ?_
  refine w_iconst X46 hx (dB at_32) 33 rfl (0 : Int32) (by decide) ?_
  refine w_iload X46 hx v39 (dB at_33) 35 rfl rfl ?_
  refine w_bastore X46 hx hZ e46 V46 ⟨by decide, by decide⟩ 0 (by decide) (show 0 < 4 from (by decide)) (dB at_35) 36 rfl (fun T47 h47 X47 e47 W47 V47 => ?_)
  have b47 : v39.toInt8.toInt32 = v39 := eqI (byteE rfl (by omega) (by omega))
  rw [b47] at W47 V47
  have F48 : Arv Z h47 a46 k46 .byte (4 : Int32) [(.int v39), (.int (0 : Int32)), (.int (0 : Int32)), (.int (0 : Int32))] (.int (0 : Int32)) := V47
  have Z47 : n0 ≤ h47.size := by rw [W47.size]; exact Z46
  have K47 : Keep h0 h47 [] := K46.wr W47 (Or.inr s_a46)
  have N47 := Fr.snoc X47 N0 g_a46
  refine w_aload X47 hx (.ref a46) (dB at_36) 38 rfl rfl rfl ?_
  refine w_iconst X47 hx (dB at_38) 39 rfl (1 : Int32) (by decide) ?_
  refine w_iload X47 hx v41 (dB at_39) 41 rfl rfl ?_
  refine w_bastore X47 hx hZ e47 F48 ⟨by decide, by decide⟩ 1 (by decide) (show 1 < 4 from (by decide)) (dB at_41) 42 rfl (fun T49 h49 X49 e49 W49 V49 => ?_)
  have b49 : v41.toInt8.toInt32 = v41 := eqI (byteE rfl (by omega) (by omega))
  rw [b49] at W49 V49
  have F50 : Arv Z h49 a46 k46 .byte (4 : Int32) [(.int v39), (.int v41), (.int (0 : Int32)), (.int (0 : Int32))] (.int (0 : Int32)) := V49
  have Z49 : n0 ≤ h49.size := by rw [W49.size]; exact Z47
  have K49 : Keep h0 h49 [] := K47.wr W49 (Or.inr s_a46)
  have N49 := Fr.snoc X49 N47 g_a46
  refine w_aload X49 hx (.ref a46) (dB at_42) 44 rfl rfl rfl ?_
  refine w_iconst X49 hx (dB at_44) 45 rfl (2 : Int32) (by decide) ?_
  refine w_iload X49 hx v43 (dB at_45) 47 rfl rfl ?_
  refine w_bastore X49 hx hZ e49 F50 ⟨by decide, by decide⟩ 2 (by decide) (show 2 < 4 from (by decide)) (dB at_47) 48 rfl (fun T51 h51 X51 e51 W51 V51 => ?_)
  have b51 : v43.toInt8.toInt32 = v43 := eqI (byteE rfl (by omega) (by omega))
  rw [b51] at W51 V51
  have F52 : Arv Z h51 a46 k46 .byte (4 : Int32) [(.int v39), (.int v41), (.int v43), (.int (0 : Int32))] (.int (0 : Int32)) := V51
  have Z51 : n0 ≤ h51.size := by rw [W51.size]; exact Z49
  have K51 : Keep h0 h51 [] := K49.wr W51 (Or.inr s_a46)
  have N51 := Fr.snoc X51 N49 g_a46
  refine w_aload X51 hx (.ref a46) (dB at_48) 50 rfl rfl rfl ?_
  refine w_iconst X51 hx (dB at_50) 51 rfl (3 : Int32) (by decide) ?_
  refine w_iload X51 hx v45 (dB at_51) 53 rfl rfl ?_
  refine w_bastore X51 hx hZ e51 F52 ⟨by decide, by decide⟩ 3 (by decide) (show 3 < 4 from (by decide)) (dB at_53) 54 rfl (fun T53 h53 X53 e53 W53 V53 => ?_)
  have b53 : v45.toInt8.toInt32 = v45 := eqI (byteE rfl (by omega) (by omega))
  rw [b53] at W53 V53
  have F54 : Arv Z h53 a46 k46 .byte (4 : Int32) [(.int v39), (.int v41), (.int v43), (.int v45)] (.int (0 : Int32)) := V53
  have Z53 : n0 ≤ h53.size := by rw [W53.size]; exact Z51
  have K53 : Keep h0 h53 [] := K51.wr W53 (Or.inr s_a46)
  have N53 := Fr.snoc X53 N51 g_a46
  refine w_iloadN X53 hx t (dB at_54) 55 rfl rfl ?_
  refine w_sipush X53 hx (dB at_55) 58 rfl (256 : Int32) (by decide) ?_
  obtain ⟨v55, e55⟩ : ∃ z : Int32, z = t &&& (256 : Int32) := ⟨_, rfl⟩
  have n55 : 0 ≤ v55.toInt ∧ v55.toInt ≤ 256 := by rw [e55]; exact c_and t (256 : Int32) (by decide)
  refine w_iand X53 hx (dB at_58) 59 rfl e55 ?_
  have J56 : ∀ (j56_0 : Int32), (-128 ≤ j56_0.toInt ∧ j56_0.toInt ≤ 127) → Wk p e below (FN s (Q0 Z b t f g h0 n0) 1 4) T53 (mkF m 76 #[.val (.int b), .val (.int t), .val (.int f), .val (.int g), .val (.int v39), .val (.int v41), .val (.int v43), .val (.int v45), .val (.ref a46), .unset, .unset, .unset, .unset, .unset, .unset] [(.int j56_0)]) := by
   intro j56_0 f56
   refine w_istore X53 hx (dB at_76) 78 rfl #[.val (.int b), .val (.int t), .val (.int f), .val (.int g), .val (.int v39), .val (.int v41), .val (.int v43), .val (.int v45), .val (.ref a46), .val (.int j56_0), .unset, .unset, .unset, .unset, .unset] rfl ?_
   refine w_iloadN X53 hx f (dB at_78) 79 rfl rfl ?_
   refine w_ldc X53 hx hZ hown (tw_1 hw) (dB at_79) 81 rfl ?_
   obtain ⟨v57, e57⟩ : ∃ z : Int32, z = f &&& (2147483647 : Int32) := ⟨_, rfl⟩
   have n57 : v57.toInt = f.toInt % 2147483648 := by rw [e57]; exact maskX 31 rfl (by decide) (by decide)
   refine w_iand X53 hx (dB at_81) 82 rfl e57 ?_
   refine w_iconst X53 hx (dB at_82) 83 rfl (5 : Int32) (by decide) ?_
   obtain ⟨v58, e58⟩ : ∃ z : Int32, z = v57 % (5 : Int32) := ⟨_, rfl⟩
   have n58 : v58.toInt = v57.toInt % 5 := by rw [e58]; exact iremX rfl (by decide) (by omega)
   refine w_irem X53 hx (dB at_83) 84 rfl (by decide) e58 ?_
   refine w_istore X53 hx (dB at_84) 86 rfl #[.val (.int b), .val (.int t), .val (.int f), .val (.int g), .val (.int v39), .val (.int v41), .val (.int v43), .val (.int v45), .val (.ref a46), .val (.int j56_0), .val (.int v58), .unset, .unset, .unset, .unset] rfl ?_
   refine w_iloadN X53 hx g (dB at_86) 87 rfl rfl ?_
   refine w_ldc X53 hx hZ hown (tw_1 hw) (dB at_87) 89 rfl ?_
   obtain ⟨v59, e59⟩ : ∃ z : Int32, z = g &&& (2147483647 : Int32) := ⟨_, rfl⟩
   have n59 : v59.toInt = g.toInt % 2147483648 := by rw [e59]; exact maskX 31 rfl (by decide) (by decide)
   refine w_iand X53 hx (dB at_89) 90 rfl e59 ?_
   refine w_iconst X53 hx (dB at_90) 91 rfl (5 : Int32) (by decide) ?_
   obtain ⟨v60, e60⟩ : ∃ z : Int32, z = v59 % (5 : Int32) := ⟨_, rfl⟩
   have n60 : v60.toInt = v59.toInt % 5 := by rw [e60]; exact iremX rfl (by decide) (by omega)
   refine w_irem X53 hx (dB at_91) 92 rfl (by decide) e60 ?_
   refine w_istore X53 hx (dB at_92) 94 rfl #[.val (.int b), .val (.int t), .val (.int f), .val (.int g), .val (.int v39), .val (.int v41), .val (.int v43), .val (.int v45), .val (.ref a46), .val (.int j56_0), .val (.int v58), .val (.int v60), .unset, .unset, .unset] rfl ?_
   have J61 : ∀ (T' : State) (L' : List Loc) (_ : Stand p l e room_1 s m #[(.int b), (.int t), (.int f), (.int g)] below meth c T' L' 1 4) (_ : T'.heap = h53) (_ : Fr n0 L') (j61_0 : Int32), (j61_0.toInt = own_find (j56_0.toInt) (v58.toInt) (v60.toInt) (v39.toInt) (v41.toInt) (v43.toInt) (v45.toInt)) → Wk p e below (FN s (Q0 Z b t f g h0 n0) 1 4) T' (mkF m 181 #[.val (.int b), .val (.int t), .val (.int f), .val (.int g), .val (.int v39), .val (.int v41), .val (.int v43), .val (.int v45), .val (.ref a46), .val (.int j56_0), .val (.int v58), .val (.int v60), .val (.int j61_0), .unset, .unset] []) := by
    intro T61 L61 X61 e61_ N61 j61_0 f61
    refine w_aload X61 hx (.ref a46) (dB at_181) 183 rfl rfl rfl ?_
    refine w_iload X61 hx j56_0 (dB at_183) 185 rfl rfl ?_
    refine w_iload X61 hx v58 (dB at_185) 187 rfl rfl ?_
    refine w_iload X61 hx v60 (dB at_187) 189 rfl rfl ?_
    refine w_callS X61 hx hZ hown e61_ (rm2 l Z a0 hw [] a46 j56_0 v58 v60 k46 v39 v41 v43 v45 h53 n0 Z53 F54 (by omega) (by omega)) (tw_6 hw) (tw_7 hw) (tw_8 hw) (tw_9 hw) (by decide) (by rw [hml]; rfl) [(.ref a46), (.int j56_0), (.int v58), (.int v60)] [] (lenOf pd_0 rfl) rfl rfl (by decide) 0 rfl (by decide) (by decide) (by decide) (dB at_189) 192 rfl (fun r62 T62 L62 X62 q62 => ?_)
    obtain ⟨z62, rfl, f62, Nq62, eq62⟩ := q62
    have N62 := Fr.app N61 Nq62
    dsimp only [Option.toList_some, Option.toList_none, List.cons_append, List.nil_append]
    refine w_istore X62 hx (dB at_192) 194 rfl #[.val (.int b), .val (.int t), .val (.int f), .val (.int g), .val (.int v39), .val (.int v41), .val (.int v43), .val (.int v45), .val (.ref a46), .val (.int j56_0), .val (.int v58), .val (.int v60), .val (.int j61_0), .val (.int z62), .unset] rfl ?_
    refine w_aload X62 hx (.ref a46) (dB at_194) 196 rfl rfl rfl ?_
    refine w_iconst X62 hx (dB at_196) 197 rfl (0 : Int32) (by decide) ?_
    refine w_baload X62 hx hZ eq62 F54 ⟨by decide, by decide⟩ (v := (.int v39)) rfl (dB at_197) 198 rfl ?_
    refine w_iload X62 hx v39 (dB at_198) 200 rfl rfl ?_
    refine w_icmp_ne X62 hx v39.toInt v39.toInt rfl rfl (dB at_200) 234 203 (fun c63 => ?_) (fun c63 => ?_)
    ·exfalso; omega
    ·refine w_aload X62 hx (.ref a46) (dB at_203) 205 rfl rfl rfl ?_
     refine w_iconst X62 hx (dB at_205) 206 rfl (1 : Int32) (by decide) ?_
     refine w_baload X62 hx hZ eq62 F54 ⟨by decide, by decide⟩ (v := (.int v41)) rfl (dB at_206) 207 rfl ?_
     refine w_iload X62 hx v41 (dB at_207) 209 rfl rfl ?_
     refine w_icmp_ne X62 hx v41.toInt v41.toInt rfl rfl (dB at_209) 234 212 (fun c64 => ?_) (fun c64 => ?_)
     ·exfalso; omega
     ·refine w_aload X62 hx (.ref a46) (dB at_212) 214 rfl rfl rfl ?_
      refine w_iconst X62 hx (dB at_214) 215 rfl (2 : Int32) (by decide) ?_
      refine w_baload X62 hx hZ eq62 F54 ⟨by decide, by decide⟩ (v := (.int v43)) rfl (dB at_215) 216 rfl ?_
      refine w_iload X62 hx v43 (dB at_216) 218 rfl rfl ?_
      refine w_icmp_ne X62 hx v43.toInt v43.toInt rfl rfl (dB at_218) 234 221 (fun c65 => ?_) (fun c65 => ?_)
      ·exfalso; omega
      ·refine w_aload X62 hx (.ref a46) (dB at_221) 223 rfl rfl rfl ?_
       refine w_iconst X62 hx (dB at_223) 224 rfl (3 : Int32) (by decide) ?_
       refine w_baload X62 hx hZ eq62 F54 ⟨by decide, by decide⟩ (v := (.int v45)) rfl (dB at_224) 225 rfl ?_
       refine w_iload X62 hx v45 (dB at_225) 227 rfl rfl ?_
       refine w_icmp_ne X62 hx v45.toInt v45.toInt rfl rfl (dB at_227) 234 230 (fun c66 => ?_) (fun c66 => ?_)
       ·exfalso; omega
       ·refine w_iconst X62 hx (dB at_230) 231 rfl (1 : Int32) (by decide) ?_
        refine w_goto X62 hx (dB at_231) 235 ?_
        refine w_istore X62 hx (dB at_235) 237 rfl #[.val (.int b), .val (.int t), .val (.int f), .val (.int g), .val (.int v39), .val (.int v41), .val (.int v43), .val (.int v45), .val (.ref a46), .val (.int j56_0), .val (.int v58), .val (.int v60), .val (.int j61_0), .val (.int z62), .val (.int (1 : Int32))] rfl ?_
        refine w_iload X62 hx z62 (dB at_237) 239 rfl rfl ?_
        refine w_iload X62 hx j61_0 (dB at_239) 241 rfl rfl ?_
        refine w_icmp_ne X62 hx z62.toInt j61_0.toInt rfl rfl (dB at_241) 253 244 (fun c67 => ?_) (fun c67 => ?_)
        ·refine w_iconst X62 hx (dB at_253) 254 rfl (0 : Int32) (by decide) ?_
         refine w_retN X62 hx hlk (t := .boolean) hret (by simp) (dB at_254) (by decide) (by decide) ?_
         rw [eq62]
         exfalso; omega
        ·refine w_iload X62 hx (1 : Int32) (dB at_244) 246 rfl rfl ?_
         refine w_if_eq X62 hx 1 (by decide) (dB at_246) 253 249 (fun c68 => ?_) (fun c68 => ?_)
         ·exfalso; omega
         ·refine w_iconst X62 hx (dB at_249) 250 rfl (1 : Int32) (by decide) ?_
          refine w_goto X62 hx (dB at_250) 254 ?_
          refine w_retN X62 hx hlk (t := .boolean) hret (by simp) (dB at_254) (by decide) (by decide) ?_
          rw [eq62]
          exact ⟨rfl, N62⟩
   refine w_aload X53 hx (.ref a46) (dB at_94) 96 rfl rfl rfl ?_
   refine w_iload X53 hx j56_0 (dB at_96) 98 rfl rfl ?_
   refine w_iconst X53 hx (dB at_98) 99 rfl (0 : Int32) (by decide) ?_
   refine w_iload X53 hx v58 (dB at_99) 101 rfl rfl ?_
   refine w_iload X53 hx v60 (dB at_101) 103 rfl rfl ?_
   refine w_callS X53 hx hZ hown e53 (rm1i0 l Z a0 hw [] a46 j56_0 v58 v60 k46 v39 v41 v43 v45 h53 n0 Z53 F54) (tw_2 hw) (tw_3 hw) (tw_4 hw) (tw_5 hw) (by decide) (by rw [hml]; rfl) [(.ref a46), (.int j56_0), (.int (0 : Int32)), (.int v58), (.int v60)] [] (lenOf pd_1 rfl) rfl rfl (by decide) 0 rfl (by decide) (by decide) (by decide) (dB at_103) 106 rfl (fun r69 T69 L69 X69 q69 => ?_)
   obtain ⟨z69, rfl, f69, Nq69, eq69⟩ := q69
   have N69 := Fr.app N53 Nq69
   dsimp only [Option.toList_some, Option.toList_none, List.cons_append, List.nil_append]
   refine w_if_eq X69 hx z69.toInt rfl (dB at_106) 115 109 (fun c70 => ?_) (fun c70 => ?_)
   ·refine w_aload X69 hx (.ref a46) (dB at_115) 117 rfl rfl rfl ?_
    refine w_iload X69 hx j56_0 (dB at_117) 119 rfl rfl ?_
    refine w_iconst X69 hx (dB at_119) 120 rfl (1 : Int32) (by decide) ?_
    refine w_iload X69 hx v58 (dB at_120) 122 rfl rfl ?_
    refine w_iload X69 hx v60 (dB at_122) 124 rfl rfl ?_
    refine w_callS X69 hx hZ hown eq69 (rm1i1 l Z a0 hw [] a46 j56_0 v58 v60 k46 v39 v41 v43 v45 h53 n0 Z53 F54) (tw_2 hw) (tw_3 hw) (tw_4 hw) (tw_5 hw) (by decide) (by rw [hml]; rfl) [(.ref a46), (.int j56_0), (.int (1 : Int32)), (.int v58), (.int v60)] [] (lenOf pd_1 rfl) rfl rfl (by decide) 0 rfl (by decide) (by decide) (by decide) (dB at_124) 127 rfl (fun r71 T71 L71 X71 q71 => ?_)
    obtain ⟨z71, rfl, f71, Nq71, eq71⟩ := q71
    have N71 := Fr.app N69 Nq71
    dsimp only [Option.toList_some, Option.toList_none, List.cons_append, List.nil_append]
    refine w_if_eq X71 hx z71.toInt rfl (dB at_127) 136 130 (fun c72 => ?_) (fun c72 => ?_)
    ·refine w_aload X71 hx (.ref a46) (dB at_136) 138 rfl rfl rfl ?_
     refine w_iload X71 hx j56_0 (dB at_138) 140 rfl rfl ?_
     refine w_iconst X71 hx (dB at_140) 141 rfl (2 : Int32) (by decide) ?_
     refine w_iload X71 hx v58 (dB at_141) 143 rfl rfl ?_
     refine w_iload X71 hx v60 (dB at_143) 145 rfl rfl ?_
     refine w_callS X71 hx hZ hown eq71 (rm1i2 l Z a0 hw [] a46 j56_0 v58 v60 k46 v39 v41 v43 v45 h53 n0 Z53 F54) (tw_2 hw) (tw_3 hw) (tw_4 hw) (tw_5 hw) (by decide) (by rw [hml]; rfl) [(.ref a46), (.int j56_0), (.int (2 : Int32)), (.int v58), (.int v60)] [] (lenOf pd_1 rfl) rfl rfl (by decide) 0 rfl (by decide) (by decide) (by decide) (dB at_145) 148 rfl (fun r73 T73 L73 X73 q73 => ?_)
     obtain ⟨z73, rfl, f73, Nq73, eq73⟩ := q73
     have N73 := Fr.app N71 Nq73
     dsimp only [Option.toList_some, Option.toList_none, List.cons_append, List.nil_append]
     refine w_if_eq X73 hx z73.toInt rfl (dB at_148) 157 151 (fun c74 => ?_) (fun c74 => ?_)
     ·refine w_aload X73 hx (.ref a46) (dB at_157) 159 rfl rfl rfl ?_
      refine w_iload X73 hx j56_0 (dB at_159) 161 rfl rfl ?_
      refine w_iconst X73 hx (dB at_161) 162 rfl (3 : Int32) (by decide) ?_
      refine w_iload X73 hx v58 (dB at_162) 164 rfl rfl ?_
      refine w_iload X73 hx v60 (dB at_164) 166 rfl rfl ?_
      refine w_callS X73 hx hZ hown eq73 (rm1i3 l Z a0 hw [] a46 j56_0 v58 v60 k46 v39 v41 v43 v45 h53 n0 Z53 F54) (tw_2 hw) (tw_3 hw) (tw_4 hw) (tw_5 hw) (by decide) (by rw [hml]; rfl) [(.ref a46), (.int j56_0), (.int (3 : Int32)), (.int v58), (.int v60)] [] (lenOf pd_1 rfl) rfl rfl (by decide) 0 rfl (by decide) (by decide) (by decide) (dB at_166) 169 rfl (fun r75 T75 L75 X75 q75 => ?_)
      obtain ⟨z75, rfl, f75, Nq75, eq75⟩ := q75
      have N75 := Fr.app N73 Nq75
      dsimp only [Option.toList_some, Option.toList_none, List.cons_append, List.nil_append]
      refine w_if_eq X75 hx z75.toInt rfl (dB at_169) 178 172 (fun c76 => ?_) (fun c76 => ?_)
      ·refine w_iconst X75 hx (dB at_178) 179 rfl (-1 : Int32) (by decide) ?_
       refine w_istore X75 hx (dB at_179) 181 rfl #[.val (.int b), .val (.int t), .val (.int f), .val (.int g), .val (.int v39), .val (.int v41), .val (.int v43), .val (.int v45), .val (.ref a46), .val (.int j56_0), .val (.int v58), .val (.int v60), .val (.int (-1 : Int32)), .unset, .unset] rfl ?_
       exact J61 _ _ (X75.more (by decide) (by decide)) eq75 N75 (-1 : Int32) (by have hz1 : (-1 : Int32).toInt = (-1) := (by decide); exact hz1.trans (by rw [own_find, if_neg (own_no f69 c70), if_neg (own_no f71 c72), if_neg (own_no f73 c74), if_neg (own_no f75 c76)]))
      ·refine w_iconst X75 hx (dB at_172) 173 rfl (3 : Int32) (by decide) ?_
       refine w_istore X75 hx (dB at_173) 175 rfl #[.val (.int b), .val (.int t), .val (.int f), .val (.int g), .val (.int v39), .val (.int v41), .val (.int v43), .val (.int v45), .val (.ref a46), .val (.int j56_0), .val (.int v58), .val (.int v60), .val (.int (3 : Int32)), .unset, .unset] rfl ?_
       refine w_goto X75 hx (dB at_175) 181 ?_
       exact J61 _ _ (X75.more (by decide) (by decide)) eq75 N75 (3 : Int32) (by have hz1 : (3 : Int32).toInt = 3 := (by decide); exact hz1.trans (by rw [own_find, if_neg (own_no f69 c70), if_neg (own_no f71 c72), if_neg (own_no f73 c74), if_pos (own_yes f75 c76)]))
     ·refine w_iconst X73 hx (dB at_151) 152 rfl (2 : Int32) (by decide) ?_
      refine w_istore X73 hx (dB at_152) 154 rfl #[.val (.int b), .val (.int t), .val (.int f), .val (.int g), .val (.int v39), .val (.int v41), .val (.int v43), .val (.int v45), .val (.ref a46), .val (.int j56_0), .val (.int v58), .val (.int v60), .val (.int (2 : Int32)), .unset, .unset] rfl ?_
      refine w_goto X73 hx (dB at_154) 181 ?_
      exact J61 _ _ (X73.more (by decide) (by decide)) eq73 N73 (2 : Int32) (by have hz1 : (2 : Int32).toInt = 2 := (by decide); exact hz1.trans (by rw [own_find, if_neg (own_no f69 c70), if_neg (own_no f71 c72), if_pos (own_yes f73 c74)]))
    ·refine w_iconst X71 hx (dB at_130) 131 rfl (1 : Int32) (by decide) ?_
     refine w_istore X71 hx (dB at_131) 133 rfl #[.val (.int b), .val (.int t), .val (.int f), .val (.int g), .val (.int v39), .val (.int v41), .val (.int v43), .val (.int v45), .val (.ref a46), .val (.int j56_0), .val (.int v58), .val (.int v60), .val (.int (1 : Int32)), .unset, .unset] rfl ?_
     refine w_goto X71 hx (dB at_133) 181 ?_
     exact J61 _ _ (X71.more (by decide) (by decide)) eq71 N71 (1 : Int32) (by have hz1 : (1 : Int32).toInt = 1 := (by decide); exact hz1.trans (by rw [own_find, if_neg (own_no f69 c70), if_pos (own_yes f71 c72)]))
   ·refine w_iconst X69 hx (dB at_109) 110 rfl (0 : Int32) (by decide) ?_
    refine w_istore X69 hx (dB at_110) 112 rfl #[.val (.int b), .val (.int t), .val (.int f), .val (.int g), .val (.int v39), .val (.int v41), .val (.int v43), .val (.int v45), .val (.ref a46), .val (.int j56_0), .val (.int v58), .val (.int v60), .val (.int (0 : Int32)), .unset, .unset] rfl ?_
    refine w_goto X69 hx (dB at_112) 181 ?_
    exact J61 _ _ (X69.more (by decide) (by decide)) eq69 N69 (0 : Int32) (by have hz1 : (0 : Int32).toInt = 0 := (by decide); exact hz1.trans (by rw [own_find, if_pos (own_yes f69 c70)]))
  refine w_if_eq X53 hx v55.toInt rfl (dB at_59) 74 62 (fun c77 => ?_) (fun c77 => ?_)
  ·refine w_iloadN X53 hx t (dB at_74) 75 rfl rfl ?_
   obtain ⟨v78, e78⟩ : ∃ z : Int32, z = t.toInt8.toInt32 := ⟨_, rfl⟩
   have n78 : (v78.toInt - t.toInt) % 256 = 0 ∧ -128 ≤ v78.toInt ∧ v78.toInt < 128 := by rw [e78]; exact i2bX rfl
   refine w_i2b X53 hx (dB at_75) 76 rfl e78 ?_
   exact J56 v78 (by omega)
  ·refine w_aload X53 hx (.ref a46) (dB at_62) 64 rfl rfl rfl ?_
   refine w_iloadN X53 hx t (dB at_64) 65 rfl rfl ?_
   refine w_bipush X53 hx (dB at_65) 67 rfl (9 : Int32) (by decide) ?_
   obtain ⟨v79, e79⟩ : ∃ z : Int32, z = (t.toUInt32 >>> ((9 : Int32) &&& 31).toUInt32).toInt32 := ⟨_, rfl⟩
   have n79 : v79.toInt = (t.toInt % 4294967296) / 512 := by rw [e79]; exact iushrX 9 rfl (by decide) (by decide)
   refine w_iushr X53 hx (dB at_67) 68 rfl e79 ?_
   refine w_iconst X53 hx (dB at_68) 69 rfl (3 : Int32) (by decide) ?_
   obtain ⟨v80, e80⟩ : ∃ z : Int32, z = v79 &&& (3 : Int32) := ⟨_, rfl⟩
   have n80 : v80.toInt = v79.toInt % 4 := by rw [e80]; exact maskX 2 rfl (by decide) (by decide)
   refine w_iand X53 hx (dB at_69) 70 rfl e80 ?_
   obtain ⟨v81, e81⟩ : ∃ z : Int32, z = ([v39, v41, v43, v45] : List Int32).getD v80.toNatClampNeg 0 := ⟨_, rfl⟩
   have n81 : -2147483648 ≤ v81.toInt ∧ v81.toInt < 2147483648 := by rw [e81]; exact rng32 _
   have mv81 : -128 ≤ v81.toInt ∧ v81.toInt ≤ 127 := by rw [e81]; exact getD_all (P := fun x => -128 ≤ x.toInt ∧ x.toInt ≤ 127) (by simp only [List.mem_cons, List.not_mem_nil, or_false]; intro x hx; rcases hx with rfl | rfl | rfl | rfl <;> omega) (by decide) _
   refine w_baload X53 hx hZ e53 F54 ⟨by omega, by have hz : (4 : Int32).toInt = 4 := (by decide); omega⟩ (v := .int v81) (by rw [e81]; exact getD_int [v39, v41, v43, v45] _) (dB at_70) 71 rfl ?_
   refine w_goto X53 hx (dB at_71) 76 ?_
   exact J56 v81 (by omega)
set_option maxRecDepth 65536 in
set_option maxHeartbeats 40000000 in
theorem comes_1 {Post : Tables → Env → Array Value → State → Outcome → State → Prop} (hpost : ∀ tb e args s v u, (limb_1_1.after args s (.returned v) u = true ∧ limb_1_2.after args s (.returned v) u = true ∧ True) → FrameEnd s (.returned v) u (Jvm.fieldLocs frame_1_writes args s ++ Jvm.arrayLocs frame_1_arrays args s ++ Jvm.staticLocs frame_1_statics s) 16 128 → Post tb e args s (.returned v) u) :
    ArmFor flags0 classFile x code maxLocals ret World_1 tables_1 room_1 Calls_1 rest_1 Pre_1 Post := by
  intro l hfl _ _ p e ha hc hk s m args below hf hA hF happ hP
  obtain ⟨hcalls, hrest, hpre⟩ := hP
  obtain ⟨-, -, -, hnamed, -, -, -, hat⟩ := (Spec.applies_iff hf).mp happ
  obtain ⟨hg, hn⟩ := and_e (Cond.before_iff.mp (show (Jvm.Cond.and given_1 narrow_1).before args s = true from hpre))
  obtain ⟨gg1, gg2⟩ := and_e hg
  obtain ⟨gg3, gg4⟩ := and_e gg2
  obtain ⟨gg5, gg6⟩ := and_e gg4
  obtain ⟨gg7, gg8⟩ := and_e gg6
  obtain ⟨w0, w1, w2, w3, rfl⟩ : ∃ w0 w1 w2 w3 : Value, args = #[w0, w1, w2, w3] := by
    have hs : args.size = 4 := by simpa [Cond.value, given_1] using gg1
    obtain ⟨L⟩ := args
    match L, hs with
    | [w0, w1, w2, w3], _ => exact ⟨w0, w1, w2, w3, rfl⟩
  have hw := fun d (hd : d ∈ tables_1) => atoms_spec (ws := Jvm.Cond.code x code maxLocals ret :: tables_1) hat d (List.mem_cons_of_mem _ hd)
  have hfit : Fit s := fun {y c} hc i hi => by
    obtain ⟨ha, rfl⟩ := Array.getElem?_eq_some_iff.mp hc
    have q := List.all_eq_true.mp ((Array.all_eq_true_iff_forall_mem.mp hF) _ (Array.getElem_mem ha)) i (List.mem_range.mpr hi)
    simpa [Array.getElem?_eq_getElem hi] using q
  obtain ⟨i0, ei0⟩ := is_v gg3
  obtain rfl : w0 = (.int i0) := Option.some.inj ei0
  obtain ⟨i1, ei1⟩ := is_v gg5
  obtain rfl : w1 = (.int i1) := Option.some.inj ei1
  obtain ⟨i2, ei2⟩ := is_v gg7
  obtain rfl : w2 = (.int i2) := Option.some.inj ei2
  obtain ⟨i3, ei3⟩ := is_v gg8
  obtain rfl : w3 = (.int i3) := Option.some.inj ei3
  obtain ⟨n, o, h1, h2, h3, _, L, rfl, ⟨rfl, N⟩, hq⟩ := rm0 l s _ hw tables_1 i0 i1 i2 i3 s.heap s.heap.size (Nat.le_refl _) p e ha hc hk s m _ below hf ((Spec.applies_iff_loose hf).mp happ).1 ⟨rfl, State.Warmed39.refl s, rfl⟩ trivial
  refine ⟨n, _, h1, h2, h3, hpost _ _ _ _ _ _ ⟨Cond.after_iff.mpr rfl, Cond.after_iff.mpr (eq_i res_at (Term.int_eval (1)) rfl), trivial⟩ ⟨hq.1, hq.2.1, (hq.2.2.sift fun y hy => Or.inr (N y hy)).mono (by decide) (by decide)⟩⟩
theorem main_1_1 : Claimed_1_1 := comes_1 fun _ _ _ _ _ _ h hF => ⟨h.1, hF⟩
theorem main_1_2 : Claimed_1_2 := comes_1 fun _ _ _ _ _ _ h hF => ⟨h.2.1, hF⟩
end Jvm.Pilot.@@N@@
namespace Jvm.Pilot.@@N@@
open Jvm Jvm.ClassFile Sem Op Lib Jvm.Free Jvm.Stand Jvm.Pilot.@@N@@.Jvm.D
/-! MADE BY PROGRAM (witnessworld.py) out of the Statement's table words and the real class files: 11 classes; the members and pool entries that the words name. The judged class is class 1, her method 2. -/
namespace start1
open Jvm.ClassFile
def u (s : String) : CpInfo := .utf8 (stringToUtf16 s)
/-- a pool by its gaps: so many unusable entries, then the entry; so many at the end -/
def gap : Nat → List CpInfo → List CpInfo
  | 0, r => r
  | n + 1, r => .unusable :: gap n r
def poolList (es : List (Nat × CpInfo)) (last : Nat) : List CpInfo := es.foldr (fun e r => gap e.1 (e.2 :: r)) (gap last [])
def pool (es : List (Nat × CpInfo)) (last : Nat) : Array CpInfo := ⟨poolList es last⟩
def fileOf (pool : Array CpInfo) (this : Nat) (attrs : Array Attribute := #[]) (ms : Array MethodInfo := #[]) (fl : Nat := 33) (sup : Nat := 0) (ifs : Array Nat := #[]) (fds : Array FieldInfo := #[]) : ClassFile where
  minorVersion := 0
  majorVersion := 65
  constantPool := pool
  accessFlags := fl
  thisClass := this
  superClass := sup
  interfaces := ifs
  fields := fds
  methods := ms
  attributes := attrs
def plain (name : String) (sup : Option ClassId) : Class where
  name := name
  kind := .ordinary
  loader := none
  accessFlags := 33
  super := sup
  interfaces := #[]
  cf := none
  fields := #[]
  methods := #[]
  instanceTypes := #[]
  staticTypes := #[]
  resolved := #[]
  callSites := []
  init := .initialized
  statics := none
  mirror := none

def pool0 : Array CpInfo := pool [(5, u "<init>"), (0, u "()V"), (1, .class_ 10), (1, u "java/lang/Object")] 113

def k0m0 : Method := { name := "<init>", desc := "()V", sig := { parameters := [], returnType := none }, accessFlags := 1, code := none }
/-- java/lang/Object -/
def k0 : Class := { plain "java/lang/Object" none with
  accessFlags := 33
  interfaces := #[]
  cf := some (fileOf pool0 8 #[] #[{ accessFlags := 1, nameIndex := 5, descriptorIndex := 6, attributes := #[] }] 33 0 #[] #[])
  fields := #[]
  methods := #[k0m0]
  instanceTypes := #[]
  staticTypes := #[]
  resolved := Array.replicate 124 none
  statics := none }

def pool1 : Array CpInfo := pool [(2, .class_ 4), (1, u "java/lang/Object"), (0, u "<init>"), (0, u "()V"), (0, .integer 2147483647), (0, .methodref 9 10), (0, .class_ 11), (0, .nameAndType 12 13), (0, u "fieldglass/record/TerminatedInputIndexOfPinLaw"), (0, u "hit"), (0, u "([BBIII)Z"), (0, .methodref 15 16), (0, .class_ 17), (0, .nameAndType 18 19), (0, u "fieldglass/record/TerminatedInput"), (0, u "indexOf"), (0, u "([BBII)I"), (3, u "law"), (0, u "(IIII)Z")] 4

def k1m0 : Method := { name := "<init>", desc := "()V", sig := { parameters := [], returnType := none }, accessFlags := 1, code := none }
def k1c1 : Code := { maxStack := 2, maxLocals := 5, code := method_2_code, exceptionTable := #[], attributes := #[] }
def k1m1 : Method := { name := "hit", desc := "([BBIII)Z", sig := { parameters := [(.array .byte), .byte, .int, .int, .int], returnType := some .boolean }, accessFlags := 10, code := some k1c1 }
def k1c2 : Code := { maxStack := 5, maxLocals := 15, code := code, exceptionTable := #[], attributes := #[] }
def k1m2 : Method := { name := "law", desc := "(IIII)Z", sig := { parameters := [.int, .int, .int, .int], returnType := some .boolean }, accessFlags := 9, code := some k1c2 }
/-- fieldglass/record/TerminatedInputIndexOfPinLaw -/
def k1 : Class := { plain "fieldglass/record/TerminatedInputIndexOfPinLaw" (some 0) with
  accessFlags := 49
  interfaces := #[]
  cf := some (fileOf pool1 9 #[] #[{ accessFlags := 1, nameIndex := 5, descriptorIndex := 6, attributes := #[] }, { accessFlags := 10, nameIndex := 12, descriptorIndex := 13, attributes := #[] }, { accessFlags := 9, nameIndex := 23, descriptorIndex := 24, attributes := #[] }] 49 2 #[] #[])
  fields := #[]
  methods := #[k1m0, k1m1, k1m2]
  instanceTypes := #[]
  staticTypes := #[]
  resolved := Array.replicate 29 none
  statics := none }

def pool2 : Array CpInfo := pool [(1, .class_ 2), (0, u "java/lang/AutoCloseable"), (0, .class_ 4), (0, u "java/lang/Object")] 7

/-- java/lang/AutoCloseable -/
def k2 : Class := { plain "java/lang/AutoCloseable" (some 0) with
  accessFlags := 1537
  interfaces := #[]
  cf := some (fileOf pool2 1 #[] #[] 1537 3 #[] #[])
  fields := #[]
  methods := #[]
  instanceTypes := #[]
  staticTypes := #[]
  resolved := Array.replicate 12 none
  statics := none }

def pool3 : Array CpInfo := pool [(1, .class_ 2), (0, u "java/io/Closeable"), (0, .class_ 4), (0, u "java/lang/Object"), (0, .class_ 6), (0, u "java/lang/AutoCloseable")] 7

/-- java/io/Closeable -/
def k3 : Class := { plain "java/io/Closeable" (some 0) with
  accessFlags := 1537
  interfaces := #[2]
  cf := some (fileOf pool3 1 #[] #[] 1537 3 #[5] #[])
  fields := #[]
  methods := #[]
  instanceTypes := #[]
  staticTypes := #[]
  resolved := Array.replicate 14 none
  statics := none }

def pool4 : Array CpInfo := pool [(2, .class_ 4), (1, u "java/lang/Object"), (3, .class_ 10), (1, u "fieldglass/record/TerminatedInput"), (0, u "in"), (0, u "Ljava/io/InputStream;"), (2, u "terminator"), (0, u "B"), (2, u "maxLength"), (0, u "I"), (3, u "buffer"), (0, u "[B"), (2, u "offset"), (0, u "J"), (2, u "position"), (2, u "limit"), (34, u "indexOf"), (0, u "([BBII)I"), (2, u "endOfInput"), (0, u "Z"), (10, .class_ 87), (0, u "java/io/Closeable"), (0, u "BLOCK_SIZE")] 14

def k4c0 : Code := { maxStack := 2, maxLocals := 5, code := prog_46_method_5_code, exceptionTable := #[], attributes := #[] }
def k4m0 : Method := { name := "indexOf", desc := "([BBII)I", sig := { parameters := [(.array .byte), .byte, .int, .int], returnType := some .int }, accessFlags := 9, code := some k4c0 }
/-- fieldglass/record/TerminatedInput -/
def k4 : Class := { plain "fieldglass/record/TerminatedInput" (some 0) with
  accessFlags := 49
  interfaces := #[3]
  cf := some (fileOf pool4 8 #[] #[{ accessFlags := 9, nameIndex := 70, descriptorIndex := 71, attributes := #[] }] 49 2 #[86] #[{ accessFlags := 26, nameIndex := 88, descriptorIndex := 20, attributes := #[] }, { accessFlags := 18, nameIndex := 11, descriptorIndex := 12, attributes := #[] }, { accessFlags := 18, nameIndex := 15, descriptorIndex := 16, attributes := #[] }, { accessFlags := 18, nameIndex := 19, descriptorIndex := 20, attributes := #[] }, { accessFlags := 18, nameIndex := 24, descriptorIndex := 25, attributes := #[] }, { accessFlags := 2, nameIndex := 32, descriptorIndex := 20, attributes := #[] }, { accessFlags := 2, nameIndex := 35, descriptorIndex := 20, attributes := #[] }, { accessFlags := 2, nameIndex := 74, descriptorIndex := 75, attributes := #[] }, { accessFlags := 2, nameIndex := 28, descriptorIndex := 29, attributes := #[] }])
  fields := #[{ name := "BLOCK_SIZE", type := .int, accessFlags := 26, slot := 0, constantValue := 0 }, { name := "in", type := (.object "java/io/InputStream"), accessFlags := 18, slot := 0, constantValue := 0 }, { name := "terminator", type := .byte, accessFlags := 18, slot := 1, constantValue := 0 }, { name := "maxLength", type := .int, accessFlags := 18, slot := 2, constantValue := 0 }, { name := "buffer", type := (.array .byte), accessFlags := 18, slot := 3, constantValue := 0 }, { name := "position", type := .int, accessFlags := 2, slot := 4, constantValue := 0 }, { name := "limit", type := .int, accessFlags := 2, slot := 5, constantValue := 0 }, { name := "endOfInput", type := .boolean, accessFlags := 2, slot := 6, constantValue := 0 }, { name := "offset", type := .long, accessFlags := 2, slot := 7, constantValue := 0 }]
  methods := #[k4m0]
  instanceTypes := #[(.object "java/io/InputStream"), .byte, .int, (.array .byte), .int, .int, .boolean, .long]
  staticTypes := #[.int]
  resolved := Array.replicate 103 none
  statics := none }

def pool5 : Array CpInfo := pool [(1, u "java/lang/Cloneable"), (0, .class_ 1), (0, u "java/lang/Object"), (0, .class_ 3)] 3

/-- java/lang/Cloneable -/
def k5 : Class := { plain "java/lang/Cloneable" (some 0) with
  accessFlags := 1537
  interfaces := #[]
  cf := some (fileOf pool5 2 #[] #[] 1537 4 #[] #[])
  fields := #[]
  methods := #[]
  instanceTypes := #[]
  staticTypes := #[]
  resolved := Array.replicate 8 none
  statics := none }

def pool6 : Array CpInfo := pool [(1, u "java/io/Serializable"), (0, .class_ 1), (0, u "java/lang/Object"), (0, .class_ 3)] 3

/-- java/io/Serializable -/
def k6 : Class := { plain "java/io/Serializable" (some 0) with
  accessFlags := 1537
  interfaces := #[]
  cf := some (fileOf pool6 2 #[] #[] 1537 4 #[] #[])
  fields := #[]
  methods := #[]
  instanceTypes := #[]
  staticTypes := #[]
  resolved := Array.replicate 8 none
  statics := none }

/-- the primitive byte -/
def k7 : Class := { plain "byte" none with kind := .primitive 'B', accessFlags := 0x411 }
/-- [B -/
def k8 : Class := { plain "[B" (some 0) with kind := .array 7 .byte, interfaces := #[5, 6], accessFlags := 1041 }

/-- the primitive int -/
def k9 : Class := { plain "int" none with kind := .primitive 'I', accessFlags := 0x411 }
/-- [I -/
def k10 : Class := { plain "[I" (some 0) with kind := .array 9 .int, interfaces := #[5, 6], accessFlags := 1041 }

def heap : Heap := #[]
def classes : Array Class := #[k0, k1, k2, k3, k4, k5, k6, k7, k8, k9, k10]
def interned : List (Array UInt16 × Addr) := []
def slotsUsed : Nat := 0
def theMethod : MethodId := ⟨1, 2⟩
def args0 : Array Value := #[.int 5, .int 7, .int 1, .int 2]
def aboutOver (below : List Frame) : State where
  vm := { classes := classes, interned := interned.toArray }
  heap := heap
  slotsUsed := slotsUsed
  threads := #[{ frames := .invoking theMethod args0 :: below }]
def below0 : List Frame := [.native { method := ⟨0, 0⟩, args := #[] }]
def about1 : State := aboutOver below0
def p0 : Program := .bare "" "" ""
def e0 : Env := launch0.env 0 0 0
theorem w_frames : about1.frames = Frame.invoking theMethod args0 :: below0 := rfl
set_option maxRecDepth 65536 in
theorem w_args : argsFit about1.vm theMethod args0 = true := by decide +kernel
set_option maxRecDepth 65536 in
theorem w_heap : heapFits about1 = true := by decide +kernel
set_option maxRecDepth 65536 in
theorem w_runnable : about1.curStatus? = some .runnable := by decide +kernel
set_option maxRecDepth 65536 in
theorem w_alone : about1.alone = true := by decide +kernel
set_option maxRecDepth 65536 in
theorem w_named : about1.methodNamed? x = some theMethod := by decide +kernel
set_option maxRecDepth 65536 in
theorem w_hears : about1.hears theMethod below0 = true := by decide +kernel
set_option maxRecDepth 65536 in
theorem w_ripe : about1.ripe theMethod args0 below0 = true := by decide +kernel
theorem w_running : about1.status = .running := rfl
set_option maxRecDepth 65536 in
theorem w_room : about1.hasRoom e0.platform room_1 = true :=
  launch0.hasRoom_least _ room_1 (by decide +kernel) (by decide +kernel) (by decide +kernel) (by decide +kernel) (by decide +kernel) (by decide +kernel)
theorem allAtoms_all (ts : List Jvm.Cond) (a : Array Jvm.Value) (st : Jvm.State) : (allAtoms ts).before a st = ts.all (fun c => c.before a st) := by
  induction ts with
  | nil => rfl
  | cons c t ih =>
    show (Jvm.Cond.and c (allAtoms t)).before a st = _
    rw [Jvm.Cond.before_and, ih, List.all_cons]
def words1 : List Jvm.Cond := Jvm.Cond.code x code maxLocals ret :: tables_1
/-- a 'code' word, met by the world's own term for the bytes: nothing is compared byte by byte -/
theorem code_word {y : MethodName} {bytes : ByteArray} {mx : Nat} {rt : Option FieldType} {a : Array Value} {s : State} {m : MethodId} {meth : Method} {c : Code} (h1 : s.methodNamed? y = some m) (h2 : s.vm.method? m = some meth) (h3 : meth.code = some c) (h4 : c.code = bytes)
    (h5 : (c.maxLocals == mx && c.exceptionTable.isEmpty && decide (c.maxStack ≤ mostOperands) && decide (meth.sig.returnType = rt) && !meth.locks && decide (parseMethodDescriptor y.desc = some meth.sig)) = true) : (Jvm.Cond.code y bytes mx rt).before a s = true := by
  simp only [Bool.and_eq_true, beq_iff_eq, Bool.not_eq_true', decide_eq_true_eq] at h5
  obtain ⟨⟨⟨⟨⟨g1, g2⟩, g3⟩, g4⟩, g5⟩, g6⟩ := h5
  simp [Cond.before, Cond.holds, Cond.value, h1, h2, h3, h4, g1, g2, g3, g4, g5, g6]
def isCode : Jvm.Cond → Bool
  | .code _ _ _ _ => true
  | _ => false
theorem all_split {L : List Jvm.Cond} {P : Jvm.Cond → Bool} (h1 : L.all (fun c => isCode c || P c) = true) (h2 : ∀ c ∈ L.filter isCode, P c = true) : L.all P = true := by
  refine List.all_eq_true.mpr fun c hc => ?_
  have h := List.all_eq_true.mp h1 c hc
  rcases Bool.eq_false_or_eq_true (isCode c) with hi | hi
  · exact h2 c (List.mem_filter.mpr ⟨hc, hi⟩)
  · simpa [hi] using h
set_option maxRecDepth 65536 in
theorem w_c0 : (Jvm.Cond.code x code maxLocals ret).before args0 about1 = true := code_word (m := ⟨1, 2⟩) (meth := k1m2) (c := k1c2) (by decide +kernel) rfl rfl rfl (by decide +kernel)
set_option maxRecDepth 65536 in
theorem w_c1 : (Jvm.Cond.code ({ cls := "fieldglass/record/TerminatedInputIndexOfPinLaw", name := "hit", desc := "([BBIII)Z" } : Jvm.MethodName) method_2_code (5 : Nat) (Option.some Jvm.ClassFile.FieldType.boolean)).before args0 about1 = true := code_word (m := ⟨1, 1⟩) (meth := k1m1) (c := k1c1) (by decide +kernel) rfl rfl rfl (by decide +kernel)
set_option maxRecDepth 65536 in
theorem w_c2 : (Jvm.Cond.code ({ cls := "fieldglass/record/TerminatedInput", name := "indexOf", desc := "([BBII)I" } : Jvm.MethodName) prog_46_method_5_code (5 : Nat) (Option.some Jvm.ClassFile.FieldType.int)).before args0 about1 = true := code_word (m := ⟨4, 0⟩) (meth := k4m0) (c := k4c0) (by decide +kernel) rfl rfl rfl (by decide +kernel)
def codes1 : List Jvm.Cond := [Jvm.Cond.code x code maxLocals ret, Jvm.Cond.code ({ cls := "fieldglass/record/TerminatedInputIndexOfPinLaw", name := "hit", desc := "([BBIII)Z" } : Jvm.MethodName) method_2_code (5 : Nat) (Option.some Jvm.ClassFile.FieldType.boolean), Jvm.Cond.code ({ cls := "fieldglass/record/TerminatedInput", name := "indexOf", desc := "([BBII)I" } : Jvm.MethodName) prog_46_method_5_code (5 : Nat) (Option.some Jvm.ClassFile.FieldType.int)]
set_option maxRecDepth 65536 in
theorem codes_eq : words1.filter isCode = codes1 := rfl
theorem w_codes : ∀ c ∈ words1.filter isCode, c.before args0 about1 = true := by
  rw [codes_eq]
  intro c hc
  simp only [codes1, List.mem_cons, List.not_mem_nil, or_false] at hc
  rcases hc with rfl | rfl | rfl
  · exact w_c0
  · exact w_c1
  · exact w_c2
set_option maxRecDepth 65536 in
theorem w_t1 : words1.all (fun c => isCode c || c.before args0 about1) = true := by decide +kernel
theorem w_tables : (allAtoms (Jvm.Cond.code x code maxLocals ret :: tables_1)).before args0 about1 = true := by
  rw [allAtoms_all]
  show words1.all (fun c => c.before args0 about1) = true
  refine all_split ?_ w_codes
  rw [w_t1]
set_option maxRecDepth 65536 in
theorem w_case : (Jvm.Cond.and given_1 narrow_1).before args0 about1 = true := by decide +kernel
theorem w_applies : (headSpec (Jvm.Cond.code x code maxLocals ret :: tables_1) room_1).applies x e0.platform about1 = true :=
  (Spec.applies_iff w_frames).mpr ⟨w_running, w_runnable, w_alone, w_named, w_hears, w_ripe, w_room, w_tables⟩
theorem atStart : AtStart classFile x code maxLocals ret World_1 tables_1 room_1 Calls_1 rest_1 Pre_1 launch0 p0 e0 about1 theMethod args0 below0 :=
  ⟨lists_1, trivial, launch0.admits_env _ _ _, launch0.least_env, fairChoices_fair.cas, fairChoices_fair.clock, w_frames, w_args, w_heap, w_applies, trivial, trivial, w_case⟩
end start1
theorem witness_1 : WitnessClaimed_1 := ⟨start1.p0, start1.e0, start1.about1, start1.theMethod, start1.args0, start1.below0, start1.atStart⟩
end Jvm.Pilot.@@N@@
