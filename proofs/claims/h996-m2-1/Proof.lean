import JvmDerived
import JvmDerived.Pilot.@@N@@Statement
import JvmDerived.Pilot.@@N@@Code
set_option linter.unusedVariables false
set_option linter.unusedSimpArgs false
namespace Jvm.Own
open Sem ClassFile Op Lib Jvm.Stand Jvm.Free Jvm.LawKit Jvm.RoadKit
/-- from here the run goes on to a return that the contract allows -/
def Wk (p : Program) (e : Env) (below : List Frame) (F : Outcome → State → Prop) (T : State) (g : JFrame) : Prop :=
  ∃ s₂ o, Steps p.tables e below (T.setTop g) s₂ ∧ s₂.status = .running ∧ Ended s₂ below o ∧ F o s₂
abbrev FN (s : State) (Q : Option Value → Heap → List Loc → Prop) (kc ks : Nat) : Outcome → State → Prop := fun o s₂ => ∃ v L, o = .returned v ∧ Q v s₂.heap L ∧ FrameEnd s o s₂ L kc ks
section Walk
variable {p : Program} {l : Launch} {e : Env} {R : Room} {s : State} {m : MethodId} {args : Array Value} {below : List Frame} {meth : Method} {c : Code} {T : State} {locs : List Loc} {cells slots : Nat} {Q : Option Value → Heap → List Loc → Prop} {Fe : Outcome → State → Prop} {kc ks pc : Nat} {Ls : Array Slot} {S : List Value} {Z : State} {a0 : Array Value} {h : Heap}
theorem Wk.step {T' : State} {g g' : JFrame} (h : Wk p e below Fe T' g') (st : ∀ t, Steps p.tables e below (T'.setTop g') t → Steps p.tables e below (T.setTop g) t) : Wk p e below Fe T g := by
  obtain ⟨s₂, o, h1, h2⟩ := h
  exact ⟨s₂, o, st _ h1, h2⟩
theorem Wk.come {T' : State} {g g' : JFrame} (h : Wk p e below Fe T' g') (st : Steps p.tables e below (T.setTop g) (T'.setTop g')) : Wk p e below Fe T g := h.step fun _ k => st.trans k
theorem w_iload (X : Stand p l e R s m args below meth c T locs cells slots) (hx : p.tables.exec = Jvm.exec) {k : Nat} (v : Int32) (hd : decode c.code pc = .ok (.iload k, 2)) (pc' : Nat) (hp : pc + 2 = pc') (hl : Ls[k]? = some (.val (.int v))) (h : Wk p e below Fe T (mkF m pc' Ls (.int v :: S))) : Wk p e below Fe T (mkF m pc Ls S) := by
  subst hp; exact h.step fun _ k => XS.iload X.here hx rfl hd hl k
theorem w_iloadN (X : Stand p l e R s m args below meth c T locs cells slots) (hx : p.tables.exec = Jvm.exec) {k : Fin 4} (v : Int32) (hd : decode c.code pc = .ok (.iload_n k, 1)) (pc' : Nat) (hp : pc + 1 = pc') (hl : Ls[k.val]? = some (.val (.int v))) (h : Wk p e below Fe T (mkF m pc' Ls (.int v :: S))) : Wk p e below Fe T (mkF m pc Ls S) := by
  subst hp; exact h.step fun _ k => XS.iloadN X.here hx rfl hd hl k
theorem w_aload (X : Stand p l e R s m args below meth c T locs cells slots) (hx : p.tables.exec = Jvm.exec) {k : Nat} (v : Value) (hd : decode c.code pc = .ok (.aload k, 2)) (pc' : Nat) (hp : pc + 2 = pc') (hl : Ls[k]? = some (.val v)) (hv : v.isRef = true) (h : Wk p e below Fe T (mkF m pc' Ls (v :: S))) : Wk p e below Fe T (mkF m pc Ls S) := by
  subst hp; exact h.step fun _ k => XS.aload X.here hx rfl hd hl hv k
theorem w_aloadN (X : Stand p l e R s m args below meth c T locs cells slots) (hx : p.tables.exec = Jvm.exec) {k : Fin 4} (v : Value) (hd : decode c.code pc = .ok (.aload_n k, 1)) (pc' : Nat) (hp : pc + 1 = pc') (hl : Ls[k.val]? = some (.val v)) (hv : v.isRef = true) (h : Wk p e below Fe T (mkF m pc' Ls (v :: S))) : Wk p e below Fe T (mkF m pc Ls S) := by
  subst hp; exact h.step fun _ k => XS.aloadN X.here hx rfl hd hl hv k
theorem w_istore (X : Stand p l e R s m args below meth c T locs cells slots) (hx : p.tables.exec = Jvm.exec) {k : Nat} {x : Int32} (hd : decode c.code pc = .ok (.istore k, 2)) (pc' : Nat) (hp : pc + 2 = pc') (l' : Array Slot) (hl : storeLocals Ls k (.int x) = some l') (h : Wk p e below Fe T (mkF m pc' l' S)) : Wk p e below Fe T (mkF m pc Ls (.int x :: S)) := by
  subst hp; exact h.step fun _ k => XS.istore X.here hx rfl hd rfl hl k
theorem w_istoreN (X : Stand p l e R s m args below meth c T locs cells slots) (hx : p.tables.exec = Jvm.exec) {k : Fin 4} {x : Int32} (hd : decode c.code pc = .ok (.istore_n k, 1)) (pc' : Nat) (hp : pc + 1 = pc') (l' : Array Slot) (hl : storeLocals Ls k.val (.int x) = some l') (h : Wk p e below Fe T (mkF m pc' l' S)) : Wk p e below Fe T (mkF m pc Ls (.int x :: S)) := by
  subst hp; exact h.step fun _ k => XS.istoreN X.here hx rfl hd rfl hl k
theorem w_astore (X : Stand p l e R s m args below meth c T locs cells slots) (hx : p.tables.exec = Jvm.exec) {k : Nat} {x : Value} (hd : decode c.code pc = .ok (.astore k, 2)) (pc' : Nat) (hp : pc + 2 = pc') (hv : x.isRef = true) (l' : Array Slot) (hl : storeLocals Ls k x = some l') (h : Wk p e below Fe T (mkF m pc' l' S)) : Wk p e below Fe T (mkF m pc Ls (x :: S)) := by
  subst hp; exact h.step fun _ k => XS.astore X.here hx rfl hd rfl hv hl k
theorem w_iconst (X : Stand p l e R s m args below meth c T locs cells slots) (hx : p.tables.exec = Jvm.exec) {i : Int} (hd : decode c.code pc = .ok (.iconst i, 1)) (pc' : Nat) (hp : pc + 1 = pc') (z : Int32) (hz : Int32.ofInt i = z) (h : Wk p e below Fe T (mkF m pc' Ls (.int z :: S))) : Wk p e below Fe T (mkF m pc Ls S) := by
  subst hp hz; exact h.step fun _ k => XS.iconst X.here hx rfl hd k
theorem w_bipush (X : Stand p l e R s m args below meth c T locs cells slots) (hx : p.tables.exec = Jvm.exec) {i : Int} (hd : decode c.code pc = .ok (.bipush i, 2)) (pc' : Nat) (hp : pc + 2 = pc') (z : Int32) (hz : (Int8.ofInt i).toInt32 = z) (h : Wk p e below Fe T (mkF m pc' Ls (.int z :: S))) : Wk p e below Fe T (mkF m pc Ls S) := by
  subst hp hz; exact h.step fun _ k => XS.bipush X.here hx rfl hd k
theorem w_iadd (X : Stand p l e R s m args below meth c T locs cells slots) (hx : p.tables.exec = Jvm.exec) {x y : Int32} (hd : decode c.code pc = .ok (.iadd, 1)) (pc' : Nat) (hp : pc + 1 = pc') {z : Int32} (hz : z = x + y) (h : Wk p e below Fe T (mkF m pc' Ls (.int z :: S))) : Wk p e below Fe T (mkF m pc Ls (.int y :: .int x :: S)) := by
  subst hp hz; exact h.step fun _ k => XS.iadd X.here hx rfl hd rfl k
theorem w_imul (X : Stand p l e R s m args below meth c T locs cells slots) (hx : p.tables.exec = Jvm.exec) {x y : Int32} (hd : decode c.code pc = .ok (.imul, 1)) (pc' : Nat) (hp : pc + 1 = pc') {z : Int32} (hz : z = x * y) (h : Wk p e below Fe T (mkF m pc' Ls (.int z :: S))) : Wk p e below Fe T (mkF m pc Ls (.int y :: .int x :: S)) := by
  subst hp hz; exact h.step fun _ k => XS.imul X.here hx rfl hd rfl k
theorem w_iand (X : Stand p l e R s m args below meth c T locs cells slots) (hx : p.tables.exec = Jvm.exec) {x y : Int32} (hd : decode c.code pc = .ok (.iand, 1)) (pc' : Nat) (hp : pc + 1 = pc') {z : Int32} (hz : z = x &&& y) (h : Wk p e below Fe T (mkF m pc' Ls (.int z :: S))) : Wk p e below Fe T (mkF m pc Ls (.int y :: .int x :: S)) := by
  subst hp hz; exact h.step fun _ k => XS.iand X.here hx rfl hd rfl k
theorem w_idiv (X : Stand p l e R s m args below meth c T locs cells slots) (hx : p.tables.exec = Jvm.exec) {x y : Int32} (hd : decode c.code pc = .ok (.idiv, 1)) (pc' : Nat) (hp : pc + 1 = pc') (hy : y ≠ 0) {z : Int32} (hz : z = x / y) (h : Wk p e below Fe T (mkF m pc' Ls (.int z :: S))) : Wk p e below Fe T (mkF m pc Ls (.int y :: .int x :: S)) := by
  subst hp hz; exact h.step fun _ k => XS.idiv X.here hx rfl hd rfl hy k
theorem w_irem (X : Stand p l e R s m args below meth c T locs cells slots) (hx : p.tables.exec = Jvm.exec) {x y : Int32} (hd : decode c.code pc = .ok (.irem, 1)) (pc' : Nat) (hp : pc + 1 = pc') (hy : y ≠ 0) {z : Int32} (hz : z = x % y) (h : Wk p e below Fe T (mkF m pc' Ls (.int z :: S))) : Wk p e below Fe T (mkF m pc Ls (.int y :: .int x :: S)) := by
  subst hp hz; exact h.step fun _ k => iremM (g := mkF m pc Ls (.int y :: .int x :: S)) X hx rfl hd rfl hy k
theorem w_dup (X : Stand p l e R s m args below meth c T locs cells slots) (hx : p.tables.exec = Jvm.exec) {x : Value} (hd : decode c.code pc = .ok (.dup, 1)) (pc' : Nat) (hp : pc + 1 = pc') (hc : x.category = 1) (h : Wk p e below Fe T (mkF m pc' Ls (x :: x :: S))) : Wk p e below Fe T (mkF m pc Ls (x :: S)) := by
  subst hp; exact h.step fun _ k => XS.dup X.here hx rfl hd rfl hc k
theorem w_goto (X : Stand p l e R s m args below meth c T locs cells slots) (hx : p.tables.exec = Jvm.exec) {o : Int} (hd : decode c.code pc = .ok (.goto o, 3)) (pc' : Nat) (h : Wk p e below Fe T (mkF m pc' Ls S)) (ho : 0 ≤ (pc : Int) + o := by decide) (hp : ((pc : Int) + o).toNat = pc' := by decide) : Wk p e below Fe T (mkF m pc Ls S) := by
  exact h.step fun _ k => XS.goto X.here hx rfl rfl hd ho hp k
theorem holds_ne {x y : Int32} {A B : Int} (ha : x.toInt = A) (hb : y.toInt = B) : ((¬ A = B) → if_icmp.holds .ne x y = true) ∧ ((A = B) → if_icmp.holds .ne x y = false) := by
  subst ha hb
  constructor
  · intro q
    first
    | exact (tlt (x := x) (y := y) (Int32.lt_iff_toInt_lt.mpr (by omega))).1
    | exact (flt (x := x) (y := y) (fun r => by have := Int32.lt_iff_toInt_lt.mp r; omega)).2.1
    | exact (tlt (x := y) (y := x) (Int32.lt_iff_toInt_lt.mpr (by omega))).2.2.1
    | exact (flt (x := y) (y := x) (fun r => by have := Int32.lt_iff_toInt_lt.mp r; omega)).2.2.2
    | exact (teq (x := x) (y := y) (Int32.toInt_inj.mp (by omega))).1
    | exact (feq (x := x) (y := y) (fun r => q (by rw [r]))).2
  · intro q
    first
    | exact (flt (x := x) (y := y) (fun r => by have := Int32.lt_iff_toInt_lt.mp r; omega)).1
    | exact (tlt (x := x) (y := y) (Int32.lt_iff_toInt_lt.mpr (by omega))).2.1
    | exact (flt (x := y) (y := x) (fun r => by have := Int32.lt_iff_toInt_lt.mp r; omega)).2.2.1
    | exact (tlt (x := y) (y := x) (Int32.lt_iff_toInt_lt.mpr (by omega))).2.2.2
    | exact (feq (x := x) (y := y) (fun r => q (by rw [r]))).1
    | exact (teq (x := x) (y := y) (Int32.toInt_inj.mp (by omega))).2
theorem w_icmp_ne (X : Stand p l e R s m args below meth c T locs cells slots) (hx : p.tables.exec = Jvm.exec) {x y : Int32} {o : Int} (A B : Int) (ha : x.toInt = A) (hb : y.toInt = B) (hd : decode c.code pc = .ok (.if_icmp .ne o, 3)) (pt pn : Nat) (h1 : ¬ A = B → Wk p e below Fe T (mkF m pt Ls S)) (h2 : A = B → Wk p e below Fe T (mkF m pn Ls S)) (ho : 0 ≤ (pc : Int) + o := by decide) (hp : ((pc : Int) + o).toNat = pt := by decide) (hn : pc + 3 = pn := by rfl) : Wk p e below Fe T (mkF m pc Ls (.int y :: .int x :: S)) := by
  subst hn
  by_cases q : ¬ A = B
  · exact (h1 q).step fun _ k => XS.icmpYes X.here hx rfl rfl hd rfl ((holds_ne ha hb).1 q) ho hp k
  · have q' : A = B := by omega
    exact (h2 q').step fun _ k => XS.icmpNo X.here hx rfl hd rfl ((holds_ne ha hb).2 q') k
theorem holds_lt {x y : Int32} {A B : Int} (ha : x.toInt = A) (hb : y.toInt = B) : ((A < B) → if_icmp.holds .lt x y = true) ∧ ((B ≤ A) → if_icmp.holds .lt x y = false) := by
  subst ha hb
  constructor
  · intro q
    first
    | exact (tlt (x := x) (y := y) (Int32.lt_iff_toInt_lt.mpr (by omega))).1
    | exact (flt (x := x) (y := y) (fun r => by have := Int32.lt_iff_toInt_lt.mp r; omega)).2.1
    | exact (tlt (x := y) (y := x) (Int32.lt_iff_toInt_lt.mpr (by omega))).2.2.1
    | exact (flt (x := y) (y := x) (fun r => by have := Int32.lt_iff_toInt_lt.mp r; omega)).2.2.2
    | exact (teq (x := x) (y := y) (Int32.toInt_inj.mp (by omega))).1
    | exact (feq (x := x) (y := y) (fun r => q (by rw [r]))).2
  · intro q
    first
    | exact (flt (x := x) (y := y) (fun r => by have := Int32.lt_iff_toInt_lt.mp r; omega)).1
    | exact (tlt (x := x) (y := y) (Int32.lt_iff_toInt_lt.mpr (by omega))).2.1
    | exact (flt (x := y) (y := x) (fun r => by have := Int32.lt_iff_toInt_lt.mp r; omega)).2.2.1
    | exact (tlt (x := y) (y := x) (Int32.lt_iff_toInt_lt.mpr (by omega))).2.2.2
    | exact (feq (x := x) (y := y) (fun r => q (by rw [r]))).1
    | exact (teq (x := x) (y := y) (Int32.toInt_inj.mp (by omega))).2
theorem w_icmp_lt (X : Stand p l e R s m args below meth c T locs cells slots) (hx : p.tables.exec = Jvm.exec) {x y : Int32} {o : Int} (A B : Int) (ha : x.toInt = A) (hb : y.toInt = B) (hd : decode c.code pc = .ok (.if_icmp .lt o, 3)) (pt pn : Nat) (h1 : A < B → Wk p e below Fe T (mkF m pt Ls S)) (h2 : B ≤ A → Wk p e below Fe T (mkF m pn Ls S)) (ho : 0 ≤ (pc : Int) + o := by decide) (hp : ((pc : Int) + o).toNat = pt := by decide) (hn : pc + 3 = pn := by rfl) : Wk p e below Fe T (mkF m pc Ls (.int y :: .int x :: S)) := by
  subst hn
  by_cases q : A < B
  · exact (h1 q).step fun _ k => XS.icmpYes X.here hx rfl rfl hd rfl ((holds_lt ha hb).1 q) ho hp k
  · have q' : B ≤ A := by omega
    exact (h2 q').step fun _ k => XS.icmpNo X.here hx rfl hd rfl ((holds_lt ha hb).2 q') k
theorem w_if_lt (X : Stand p l e R s m args below meth c T locs cells slots) (hx : p.tables.exec = Jvm.exec) {x : Int32} {o : Int} (A : Int) (ha : x.toInt = A) (hd : decode c.code pc = .ok (.ifCond .lt o, 3)) (pt pn : Nat) (h1 : A < 0 → Wk p e below Fe T (mkF m pt Ls S)) (h2 : 0 ≤ A → Wk p e below Fe T (mkF m pn Ls S)) (ho : 0 ≤ (pc : Int) + o := by decide) (hp : ((pc : Int) + o).toNat = pt := by decide) (hn : pc + 3 = pn := by rfl) : Wk p e below Fe T (mkF m pc Ls (.int x :: S)) := by
  subst hn
  have hb : (0 : Int32).toInt = 0 := rfl
  by_cases q : A < 0
  · exact (h1 q).step fun _ k => XS.ifYes X.here hx rfl rfl hd rfl ((if0 _ _).trans ((holds_lt ha hb).1 q)) ho hp k
  · have q' : 0 ≤ A := by omega
    exact (h2 q').step fun _ k => XS.ifNo X.here hx rfl hd rfl ((if0 _ _).trans ((holds_lt ha hb).2 q')) k
theorem holds_ge {x y : Int32} {A B : Int} (ha : x.toInt = A) (hb : y.toInt = B) : ((B ≤ A) → if_icmp.holds .ge x y = true) ∧ ((A < B) → if_icmp.holds .ge x y = false) := by
  subst ha hb
  constructor
  · intro q
    first
    | exact (tlt (x := x) (y := y) (Int32.lt_iff_toInt_lt.mpr (by omega))).1
    | exact (flt (x := x) (y := y) (fun r => by have := Int32.lt_iff_toInt_lt.mp r; omega)).2.1
    | exact (tlt (x := y) (y := x) (Int32.lt_iff_toInt_lt.mpr (by omega))).2.2.1
    | exact (flt (x := y) (y := x) (fun r => by have := Int32.lt_iff_toInt_lt.mp r; omega)).2.2.2
    | exact (teq (x := x) (y := y) (Int32.toInt_inj.mp (by omega))).1
    | exact (feq (x := x) (y := y) (fun r => q (by rw [r]))).2
  · intro q
    first
    | exact (flt (x := x) (y := y) (fun r => by have := Int32.lt_iff_toInt_lt.mp r; omega)).1
    | exact (tlt (x := x) (y := y) (Int32.lt_iff_toInt_lt.mpr (by omega))).2.1
    | exact (flt (x := y) (y := x) (fun r => by have := Int32.lt_iff_toInt_lt.mp r; omega)).2.2.1
    | exact (tlt (x := y) (y := x) (Int32.lt_iff_toInt_lt.mpr (by omega))).2.2.2
    | exact (feq (x := x) (y := y) (fun r => q (by rw [r]))).1
    | exact (teq (x := x) (y := y) (Int32.toInt_inj.mp (by omega))).2
theorem w_icmp_ge (X : Stand p l e R s m args below meth c T locs cells slots) (hx : p.tables.exec = Jvm.exec) {x y : Int32} {o : Int} (A B : Int) (ha : x.toInt = A) (hb : y.toInt = B) (hd : decode c.code pc = .ok (.if_icmp .ge o, 3)) (pt pn : Nat) (h1 : B ≤ A → Wk p e below Fe T (mkF m pt Ls S)) (h2 : A < B → Wk p e below Fe T (mkF m pn Ls S)) (ho : 0 ≤ (pc : Int) + o := by decide) (hp : ((pc : Int) + o).toNat = pt := by decide) (hn : pc + 3 = pn := by rfl) : Wk p e below Fe T (mkF m pc Ls (.int y :: .int x :: S)) := by
  subst hn
  by_cases q : B ≤ A
  · exact (h1 q).step fun _ k => XS.icmpYes X.here hx rfl rfl hd rfl ((holds_ge ha hb).1 q) ho hp k
  · have q' : A < B := by omega
    exact (h2 q').step fun _ k => XS.icmpNo X.here hx rfl hd rfl ((holds_ge ha hb).2 q') k
theorem w_retN (X : Stand p l e R s m args below meth c T locs cells slots) (hx : p.tables.exec = Jvm.exec) (hlocks : meth.locks = false) {t : FieldType} {z : Int32} (hret : meth.sig.returnType = some t) (ht : t = .boolean ∨ t = .byte ∨ t = .char ∨ t = .short) (hd : decode c.code pc = .ok (.ireturn, 1)) (hc : cells ≤ kc) (hs : slots ≤ ks) (hQ : Q (some (.int (nar t z))) T.heap locs) : Wk p e below (FN s Q kc ks) T (mkF m pc Ls (.int z :: S)) := by
  obtain ⟨fs, hr, hrun, hended, hW, hsame⟩ := X.leave (v := some (.int (nar t z))) (fun h => by rw [hret] at h; cases h) hlocks
  exact ⟨_, _, retN X hx hret ht hd hr, hrun, hended, _, _, rfl, hQ, ⟨_, rfl⟩, hW, hsame.mono hc hs⟩
theorem w_retO (X : Stand p l e R s m args below meth c T locs cells slots) (hx : p.tables.exec = Jvm.exec) (hlocks : meth.locks = false) {t : FieldType} {w : Value} {i : Instr} (hret : meth.sig.returnType = some t) (hn : narrow t w = w)
    (hi : (i = .ireturn ∧ (t = .int ∨ t = .boolean ∨ t = .byte ∨ t = .char ∨ t = .short) ∧ ∃ z, w = .int z) ∨ (i = .lreturn ∧ t = .long ∧ ∃ z, w = .long z) ∨ (i = .dreturn ∧ t = .double ∧ ∃ z, w = .double z) ∨ (i = .freturn ∧ t = .float ∧ ∃ z, w = .float z) ∨ (i = .areturn ∧ t.isReference = true ∧ w.isRef = true))
    (hd : decode c.code pc = .ok (i, 1)) (hc : cells ≤ kc) (hs : slots ≤ ks) (hQ : Q (some w) T.heap locs) : Wk p e below (FN s Q kc ks) T (mkF m pc Ls (w :: S)) := by
  obtain ⟨fs, hr, hrun, hended, hW, hsame⟩ := X.leave (v := some w) (fun h => by rw [hret] at h; cases h) hlocks
  exact ⟨_, _, retOut X hx hret hn hi hd hr, hrun, hended, _, _, rfl, hQ, ⟨_, rfl⟩, hW, hsame.mono hc hs⟩
theorem w_retI (X : Stand p l e R s m args below meth c T locs cells slots) (hx : p.tables.exec = Jvm.exec) (hlocks : meth.locks = false) {z : Int32} (hret : meth.sig.returnType = some .int) (hd : decode c.code pc = .ok (.ireturn, 1)) (hc : cells ≤ kc) (hs : slots ≤ ks) (hQ : Q (some (.int z)) T.heap locs) : Wk p e below (FN s Q kc ks) T (mkF m pc Ls (.int z :: S)) :=
  w_retO X hx hlocks hret rfl (Or.inl ⟨rfl, Or.inl rfl, _, rfl⟩) hd hc hs hQ
theorem w_ret0 (X : Stand p l e R s m args below meth c T locs cells slots) (hx : p.tables.exec = Jvm.exec) (hlocks : meth.locks = false) (hret : meth.sig.returnType = none) (hd : decode c.code pc = .ok (.return_, 1)) (hc : cells ≤ kc) (hs : slots ≤ ks) (hQ : Q none T.heap locs) : Wk p e below (FN s Q kc ks) T (mkF m pc Ls []) := by
  obtain ⟨fs, hr, hrun, hended, hW, hsame⟩ := X.leave (v := none) (fun _ => rfl) hlocks
  exact ⟨_, _, X.returnOut hx hret hd hr, hrun, hended, _, _, rfl, hQ, ⟨_, rfl⟩, hW, hsame.mono hc hs⟩
theorem w_init (X : Stand p l e R s m args below meth c T locs cells slots) (hx : p.tables.exec = Jvm.exec) (hZ : Z.Warmed39 s.vm) {own : String} {index : Nat} {y : MethodName} {bytes : ByteArray} {maxL : Nat} {rm : Room} {as' : Array Value} {Qc : Option Value → Heap → List Loc → Prop} (hy1 : y.name = "<init>") (hown : s.vm.findClass own = some m.cls) (eT : T.heap = h)
    (hM : MetFree l y (head1 [Cond.code y bytes maxL none] rm) (fun a U => a = as' ∧ Z.Warmed39 U.vm ∧ U.heap = h) (fun _ _ _ _ _ => True) (fun _ U o U' => ∃ v L, o = .returned v ∧ Qc v U'.heap L ∧ FrameEnd U o U' L rm.cells rm.slots))
    (w1 : (Cond.methodLink own index y).before a0 Z = true) (w2 : (Cond.instanceMethod y).before a0 Z = true) (w3 : (Cond.initialized y.cls).before a0 Z = true) (w4 : (Cond.code y bytes maxL none).before a0 Z = true) (hy : y.cls ≠ "java/lang/invoke/MethodHandle" ∧ y.cls ≠ "java/lang/invoke/VarHandle")
    (hsize : Ls.size = c.maxLocals) (a : Addr) (argsL rest : List Value) (hlen : ∀ sig, parseMethodDescriptor y.desc = some sig → argsL.length = sig.parameters.length) (hst : S = argsL.reverse ++ .ref a :: rest) (has : (Value.ref a :: argsL).toArray = as')
    (hf : rm.frames + 1 ≤ R.frames) (W : Nat) (hW : (rest.map fun v => v.category).sum = W) (hl : W + (maxL + 11) + rm.locals ≤ R.locals) (hc : cells + rm.cells ≤ R.cells) (hs : slots + rm.slots ≤ R.slots) (hd : decode c.code pc = .ok (.invokespecial index, 3)) (pc' : Nat) (hp : pc + 3 = pc')
    (k : ∀ (v : Option Value) (T' : State) (L : List Loc), Stand p l e R s m args below meth c T' (locs ++ L) (cells + rm.cells) (slots + rm.slots) → Qc v T'.heap L → Wk p e below Fe T' (mkF m pc' Ls (v.toList ++ rest))) : Wk p e below Fe T (mkF m pc Ls S) := by
  subst hp hst has hW
  obtain ⟨v, _, ⟨T', L', k', n'⟩, -, X', ⟨Lc, q1, q2, q3, q4⟩, st⟩ := X.specialBack hx hy1 hown (mvT hZ w1) (mvT hZ w2) (mvT hZ w4) hy (backOf hM hZ w4 w3 hf hl) (g := mkF m pc Ls (argsL.reverse ++ .ref a :: rest)) rfl hsize (Steps.refl _) hlen rfl (by show 2 * 0 + _ ≤ _; rw [Nat.mul_zero, Nat.zero_add]; exact Nat.le_refl _) hd (fun _ _ => ⟨rfl, eT, hc, hs⟩)
  dsimp only [Pt.U, Pt.locs, Pt.cells, Pt.slots] at X' q2 q3 q4 st q1
  subst q2 q3 q4
  exact (k v T' Lc X' q1).come st
theorem w_virt (X : Stand p l e R s m args below meth c T locs cells slots) (hx : p.tables.exec = Jvm.exec) (hZ : Z.Warmed39 s.vm) {own : String} {index : Nat} {y : MethodName} {bytes : ByteArray} {maxL : Nat} {ret : Option FieldType} {rm : Room} {as' : Array Value} {Qc : Option Value → Heap → List Loc → Prop} {C : String} {y0 : MethodName} (hown : s.vm.findClass own = some m.cls) (eT : T.heap = h)
    (hM : MetFree l y (head1 [Cond.code y bytes maxL ret] rm) (fun a U => a = as' ∧ Z.Warmed39 U.vm ∧ U.heap = h) (fun _ _ _ _ _ => True) (fun _ U o U' => ∃ v L, o = .returned v ∧ Qc v U'.heap L ∧ FrameEnd U o U' L rm.cells rm.slots))
    (w1 : (Cond.methodLink own index y0).before a0 Z = true) (w2 : (Cond.declares y0).before a0 Z = true) (nf : NotFace s y0) (w5 : (Cond.selects C y0 y).before a0 Z = true) (w6 : (Cond.instanceMethod y).before a0 Z = true) (w3 : (Cond.initialized y.cls).before a0 Z = true) (w4 : (Cond.code y bytes maxL ret).before a0 Z = true) (hy : y0.cls ≠ "java/lang/invoke/MethodHandle" ∧ y0.cls ≠ "java/lang/invoke/VarHandle")
    (a : Addr) (E : Exa Z h a C)
    (hsize : Ls.size = c.maxLocals) (argsL rest : List Value) (hlen : ∀ sig, parseMethodDescriptor y0.desc = some sig → argsL.length = sig.parameters.length) (hst : S = argsL.reverse ++ .ref a :: rest) (has : (Value.ref a :: argsL).toArray = as')
    (hf : rm.frames + 1 ≤ R.frames) (W : Nat) (hW : (rest.map fun v => v.category).sum = W) (hl : W + (maxL + 11) + rm.locals ≤ R.locals) (hc : cells + rm.cells ≤ R.cells) (hs : slots + rm.slots ≤ R.slots) (hd : decode c.code pc = .ok (.invokevirtual index, 3)) (pc' : Nat) (hp : pc + 3 = pc')
    (k : ∀ (v : Option Value) (T' : State) (L : List Loc), Stand p l e R s m args below meth c T' (locs ++ L) (cells + rm.cells) (slots + rm.slots) → Qc v T'.heap L → Wk p e below Fe T' (mkF m pc' Ls (v.toList ++ rest))) : Wk p e below Fe T (mkF m pc Ls S) := by
  subst hp hst has hW
  obtain ⟨cq, kq, qa, qb, qc⟩ := isOf hZ eT E
  obtain ⟨v, _, ⟨T', L', k', n'⟩, -, X', ⟨Lc, q1, q2, q3, q4⟩, st⟩ := X.virtualBack hx hown (mvT hZ w1) (mvT hZ w2) nf (mvT hZ w5) (mvT hZ w6) hy (backOf hM hZ w4 w3 hf hl) qa qc (g := mkF m pc Ls (argsL.reverse ++ .ref a :: rest)) rfl hsize (Steps.refl _) hlen rfl (by show 2 * 0 + _ ≤ _; rw [Nat.mul_zero, Nat.zero_add]; exact Nat.le_refl _) hd (fun _ _ => ⟨rfl, eT, hc, hs⟩)
  dsimp only [Pt.U, Pt.locs, Pt.cells, Pt.slots] at X' q2 q3 q4 st q1
  subst q2 q3 q4
  exact (k v T' Lc X' q1).come st
theorem w_objinit (X : Stand p l e R s m args below meth c T locs cells slots) (hx : p.tables.exec = Jvm.exec) (hZ : Z.Warmed39 s.vm) {own : String} {idx : Nat} (hown : s.vm.findClass own = some m.cls) (eT : T.heap = h) (w1 : (Cond.methodLink own idx Lib.objectInit).before a0 Z = true) (w2 : (Cond.instanceMethod Lib.objectInit).before a0 Z = true) (w3 : (Cond.code Lib.objectInit ⟨#[0xb1]⟩ 1 none).before a0 Z = true)
    (hsize : Ls.size = c.maxLocals) {a : Addr} (hf : 1 ≤ R.frames) (W : Nat) (hW : (S.map fun v => v.category).sum = W) (hl : W + 12 ≤ R.locals) (hd : decode c.code pc = .ok (.invokespecial idx, 3)) (pc' : Nat) (hp : pc + 3 = pc')
    (k : ∀ T' : State, Stand p l e R s m args below meth c T' locs cells slots → T'.heap = h → Wk p e below Fe T' (mkF m pc' Ls S)) : Wk p e below Fe T (mkF m pc Ls (.ref a :: S)) := by
  subst hp hW
  obtain ⟨T', X', e', st⟩ := initO X hx hZ hown w1 w2 w3 eT (g := mkF m pc Ls (.ref a :: S)) rfl hsize rfl hd hf (by show 2 * 0 + _ ≤ _; rw [Nat.mul_zero, Nat.zero_add]; exact Nat.le_refl _) hl
  exact (k T' X' e').step st
theorem w_getF (X : Stand p l e R s m args below meth c T locs cells slots) (hx : p.tables.exec = Jvm.exec) (hZ : Z.Warmed39 s.vm) {own R0 O n d host : String} {index : Nat} (hown : s.vm.findClass own = some m.cls) (eT : T.heap = h) (w : (Cond.fieldLink own index R0 n d).before a0 Z = true ∨ (Cond.fieldLinkNest own index R0 n d host).before a0 Z = true) (via : Via Z R0 O n d)
    {a : Addr} {v : Value} (F : Fld Z h a O n d v) (hd : decode c.code pc = .ok (.getfield index, 3)) (pc' : Nat) (hp : pc + 3 = pc')
    (k : ∀ T' : State, Stand p l e R s m args below meth c T' locs cells slots → T'.heap = h → Wk p e below Fe T' (mkF m pc' Ls (v :: S))) : Wk p e below Fe T (mkF m pc Ls (.ref a :: S)) := by
  subst hp
  obtain ⟨T', X', e', st⟩ := getF X hx hZ hown w via eT F (g := mkF m pc Ls (.ref a :: S)) rfl rfl hd
  exact (k T' X' e').step st
theorem w_putF (X : Stand p l e R s m args below meth c T locs cells slots) (hx : p.tables.exec = Jvm.exec) (hZ : Z.Warmed39 s.vm) {own R0 O n d host C : String} {index kk : Nat} {ty : FieldType} (hown : s.vm.findClass own = some m.cls) (eT : T.heap = h) (w : (Cond.fieldLink own index R0 n d).before a0 Z = true ∨ (Cond.fieldLinkNest own index R0 n d host).before a0 Z = true) (via : Via Z R0 O n d)
    {a : Addr} {v old : Value} (F : Fld Z h a O n d old) (E : Exa Z h a C) (L : (Cond.lays C O n d).before a0 Z = true ∨ ((Cond.laysFinal C O n d).before a0 Z = true ∧ own = O ∧ meth.name = "<init>")) (wi : (Cond.instantiable C kk).before a0 Z = true)
    (hty : parseFieldDescriptor d = some ty) (hn : narrow ty v = v) (hf : fits ty v = true) (hd : decode c.code pc = .ok (.putfield index, 3)) (pc' : Nat) (hp : pc + 3 = pc')
    (k : ∀ (T' : State) (h' : Heap), Stand p l e R s m args below meth c T' (locs ++ [⟨a, Jvm.RoadKit.slotOf Z O n d⟩]) cells slots → T'.heap = h' → Wr h h' a (Jvm.RoadKit.slotOf Z O n d) v → Wk p e below Fe T' (mkF m pc' Ls S)) : Wk p e below Fe T (mkF m pc Ls (v :: .ref a :: S)) := by
  subst hp
  obtain ⟨T', h', X', e', W', st⟩ := putF X hx hZ hown w via eT F E L wi hty hn hf (g := mkF m pc Ls (v :: .ref a :: S)) rfl rfl hd
  exact (k T' h' X' e' W').step st
theorem w_new (X : Stand p l e R s m args below meth c T locs cells slots) (hx : p.tables.exec = Jvm.exec) (hZ : Z.Warmed39 s.vm) {own C : String} {index n : Nat} (hown : s.vm.findClass own = some m.cls) (eT : T.heap = h) (w : (Cond.classLink own index C).before a0 Z = true) (wi : (Cond.instantiable C n).before a0 Z = true) (wz : (Cond.initialized C).before a0 Z = true)
    (hc : cells + 1 ≤ R.cells) (hl : slots + n ≤ R.slots) (hd : decode c.code pc = .ok (.new index, 3)) (pc' : Nat) (hp : pc + 3 = pc')
    (k : ∀ (T' : State) (h' : Heap) (a : Addr), Stand p l e R s m args below meth c T' locs (cells + 1) (slots + n) → T'.heap = h' → a = h.size → Ext h h' → Exa Z h' a C → (∀ {O nm d : String} {ty : FieldType}, Laid Z a0 C O nm d → parseFieldDescriptor d = some ty → Fld Z h' a O nm d (defaultValue ty)) → Wk p e below Fe T' (mkF m pc' Ls (.ref a :: S))) : Wk p e below Fe T (mkF m pc Ls S) := by
  subst hp
  obtain ⟨T', h', X', e', E', A', D', -, st⟩ := newO X hx hZ hown w wi wz eT (g := mkF m pc Ls S) rfl hd hc hl
  exact (k T' h' _ X' e' rfl E' A' D').step st
abbrev CT (l : Launch) (y : MethodName) (bytes : ByteArray) (maxL : Nat) (ret : Option FieldType) (ws : List Cond) (rm : Room) (as' : Array Value) (Z : State) (h0 : Heap) (Q : Option Value → Heap → List Loc → Prop) : Prop :=
  MetFree l y (head1 (Cond.code y bytes maxL ret :: ws) rm) (fun a U => a = as' ∧ Z.Warmed39 U.vm ∧ U.heap = h0) (fun _ _ _ _ _ => True) (fun _ U o U' => ∃ v L, o = .returned v ∧ Q v U'.heap L ∧ FrameEnd U o U' L rm.cells rm.slots)
theorem body_of {y : MethodName} {bytes : ByteArray} {maxL : Nat} {ret : Option FieldType} {ws : List Cond} {rm : Room} {as' : Array Value} {h0 : Heap} (hpl : plainFor y = true)
    (k : ∀ (p : Program) (e : Env) (s : State) (m : MethodId) (below : List Frame) (meth : Method) (c : Code) (s₁ : State), p.tables.exec = Jvm.exec → (∀ {pc : Nat} {r : Except DecodeError (Instr × Nat)}, decode bytes pc = r → decode c.code pc = r) → meth.sig.returnType = ret → meth.locks = false → c.maxLocals = maxL → s.vm.findClass y.cls = some m.cls → meth.name = y.name → Stand p l e rm s m as' below meth c s₁ [] 0 0 → s₁.heap = h0 → Z.Warmed39 s.vm → Wk p e below (FN s Q kc ks) s₁ (entryFrame m as' maxL)) :
    MetFree l y (head1 (Cond.code y bytes maxL ret :: ws) rm) (fun a U => a = as' ∧ Z.Warmed39 U.vm ∧ U.heap = h0) (fun _ _ _ _ _ => True) (fun _ U o U' => ∃ v L, o = .returned v ∧ Q v U'.heap L ∧ FrameEnd U o U' L kc ks) := by
  refine MetFree.of_bodySF hpl hisR ?_
  intro p e s m args below meth c s₁ Bd hml0 hP hK
  obtain ⟨rfl, hZ, hh⟩ := hP
  obtain ⟨s₂, o, h1, h2⟩ := k p e s m below meth c s₁ Bd.exec (fun q => hb Bd.bytes q) Bd.returns Bd.notSynchronized hml0 (findClass_of_methodNamed Bd.named) (name_of_methodNamed Bd.named Bd.method).1 (Stand.of_body Bd) (by rw [← hh, Bd.state]; rfl) hZ
  exact ⟨s₂, o, h1, h2⟩
end Walk
/-! plain facts on Int32 and Int64, in Ints -/
theorem addX {x y : Int32} {A B : Int} (ha : x.toInt = A) (hb : y.toInt = B) (h1 : -2147483648 ≤ A + B) (h2 : A + B < 2147483648) : (x + y).toInt = A + B := by
  have := c_iadd x y; have := rng32 (x + y); omega
theorem mulX {x y : Int32} {A B : Int} (ha : x.toInt = A) (hb : y.toInt = B) (h1 : -2147483648 ≤ A * B) (h2 : A * B < 2147483648) : (x * y).toInt = A * B := by
  have := c_imul x y; have := rng32 (x * y); subst ha hb; omega
theorem maskX {x m : Int32} {A : Int} (k : Nat) (ha : x.toInt = A) (hk : k ≤ 31) (hm : m.toBitVec.toNat = 2 ^ k - 1) : (x &&& m).toInt = A % (2 ^ k : Nat) := by subst ha; exact c_mask x m k hk hm
theorem iremX {x y : Int32} {A d : Int} (ha : x.toInt = A) (hy : y.toInt = d) (h0 : 0 ≤ A) : (x % y).toInt = A % d := by subst ha; exact (c_irem x y d hy).1 h0
theorem idivX {x y : Int32} {A d : Int} (ha : x.toInt = A) (hy : y.toInt = d) (h1 : y ≠ -1) (h0 : 0 ≤ A) : (x / y).toInt = A / d := by subst ha; exact (c_idiv x y d hy h1).1 h0
end Jvm.Own
namespace Jvm.Pilot.@@N@@
open Jvm Jvm.ClassFile Sem Op Lib Jvm.Free Jvm.Stand Jvm.LawKit Jvm.RoadKit Bundle Jvm.Own Jvm.Pilot.@@N@@.Jvm.D
abbrev cN_0 : String := "java/lang/Record"
abbrev cN_1 : String := "com/example/lapidary/lapidary/rules/gem/Square"
abbrev cN_2 : String := "com/example/lapidary/lapidary/rules/gem/SquareIndexPinLaw"
theorem tw_0 {Z : State} {a0 : Array Value} (hw : ∀ d ∈ tables_1, d.before a0 Z = true) : (Jvm.Cond.classLink "com/example/lapidary/lapidary/rules/gem/SquareIndexPinLaw" (7 : Nat) "com/example/lapidary/lapidary/rules/gem/Square").before a0 Z = true := hw _ (List.mem_of_getElem? (i := 0) rfl)
theorem tw_1 {Z : State} {a0 : Array Value} (hw : ∀ d ∈ tables_1, d.before a0 Z = true) : (Jvm.Cond.instantiable "com/example/lapidary/lapidary/rules/gem/Square" (2 : Nat)).before a0 Z = true := hw _ (List.mem_of_getElem? (i := 1) rfl)
theorem tw_2 {Z : State} {a0 : Array Value} (hw : ∀ d ∈ tables_1, d.before a0 Z = true) : (Jvm.Cond.initialized "com/example/lapidary/lapidary/rules/gem/Square").before a0 Z = true := hw _ (List.mem_of_getElem? (i := 2) rfl)
theorem tw_3 {Z : State} {a0 : Array Value} (hw : ∀ d ∈ tables_1, d.before a0 Z = true) : (Jvm.Cond.methodLink "com/example/lapidary/lapidary/rules/gem/SquareIndexPinLaw" (9 : Nat) ({ cls := "com/example/lapidary/lapidary/rules/gem/Square", name := "<init>", desc := "(II)V" } : Jvm.MethodName)).before a0 Z = true := hw _ (List.mem_of_getElem? (i := 3) rfl)
theorem tw_4 {Z : State} {a0 : Array Value} (hw : ∀ d ∈ tables_1, d.before a0 Z = true) : (Jvm.Cond.instanceMethod ({ cls := "com/example/lapidary/lapidary/rules/gem/Square", name := "<init>", desc := "(II)V" } : Jvm.MethodName)).before a0 Z = true := hw _ (List.mem_of_getElem? (i := 4) rfl)
theorem tw_5 {Z : State} {a0 : Array Value} (hw : ∀ d ∈ tables_1, d.before a0 Z = true) : (Jvm.Cond.code ({ cls := "com/example/lapidary/lapidary/rules/gem/Square", name := "<init>", desc := "(II)V" } : Jvm.MethodName) prog_20_method_1_code (3 : Nat) (Option.none : Option Jvm.ClassFile.FieldType)).before a0 Z = true := hw _ (List.mem_of_getElem? (i := 5) rfl)
theorem tw_6 {Z : State} {a0 : Array Value} (hw : ∀ d ∈ tables_1, d.before a0 Z = true) : (Jvm.Cond.methodLink "com/example/lapidary/lapidary/rules/gem/Square" (3 : Nat) ({ cls := "java/lang/Record", name := "<init>", desc := "()V" } : Jvm.MethodName)).before a0 Z = true := hw _ (List.mem_of_getElem? (i := 6) rfl)
theorem tw_7 {Z : State} {a0 : Array Value} (hw : ∀ d ∈ tables_1, d.before a0 Z = true) : (Jvm.Cond.instanceMethod ({ cls := "java/lang/Record", name := "<init>", desc := "()V" } : Jvm.MethodName)).before a0 Z = true := hw _ (List.mem_of_getElem? (i := 7) rfl)
theorem tw_9 {Z : State} {a0 : Array Value} (hw : ∀ d ∈ tables_1, d.before a0 Z = true) : (Jvm.Cond.initialized "java/lang/Record").before a0 Z = true := hw _ (List.mem_of_getElem? (i := 9) rfl)
theorem tw_10 {Z : State} {a0 : Array Value} (hw : ∀ d ∈ tables_1, d.before a0 Z = true) : (Jvm.Cond.code ({ cls := "java/lang/Record", name := "<init>", desc := "()V" } : Jvm.MethodName) jdk_30_method_1_code (1 : Nat) (Option.none : Option Jvm.ClassFile.FieldType)).before a0 Z = true := hw _ (List.mem_of_getElem? (i := 10) rfl)
theorem tw_11 {Z : State} {a0 : Array Value} (hw : ∀ d ∈ tables_1, d.before a0 Z = true) : (Jvm.Cond.methodLink "java/lang/Record" (1 : Nat) ({ cls := "java/lang/Object", name := "<init>", desc := "()V" } : Jvm.MethodName)).before a0 Z = true := hw _ (List.mem_of_getElem? (i := 11) rfl)
theorem tw_12 {Z : State} {a0 : Array Value} (hw : ∀ d ∈ tables_1, d.before a0 Z = true) : (Jvm.Cond.instanceMethod ({ cls := "java/lang/Object", name := "<init>", desc := "()V" } : Jvm.MethodName)).before a0 Z = true := hw _ (List.mem_of_getElem? (i := 12) rfl)
theorem tw_13 {Z : State} {a0 : Array Value} (hw : ∀ d ∈ tables_1, d.before a0 Z = true) : (Jvm.Cond.code ({ cls := "java/lang/Object", name := "<init>", desc := "()V" } : Jvm.MethodName) object_method_1_code (1 : Nat) (Option.none : Option Jvm.ClassFile.FieldType)).before a0 Z = true := hw _ (List.mem_of_getElem? (i := 13) rfl)
theorem tw_14 {Z : State} {a0 : Array Value} (hw : ∀ d ∈ tables_1, d.before a0 Z = true) : (Jvm.Cond.fieldLink "com/example/lapidary/lapidary/rules/gem/Square" (18 : Nat) "com/example/lapidary/lapidary/rules/gem/Square" "column" "I").before a0 Z = true := hw _ (List.mem_of_getElem? (i := 14) rfl)
theorem tw_15 {Z : State} {a0 : Array Value} (hw : ∀ d ∈ tables_1, d.before a0 Z = true) : (Jvm.Cond.laysFinal "com/example/lapidary/lapidary/rules/gem/Square" "com/example/lapidary/lapidary/rules/gem/Square" "column" "I").before a0 Z = true := hw _ (List.mem_of_getElem? (i := 15) rfl)
theorem tw_16 {Z : State} {a0 : Array Value} (hw : ∀ d ∈ tables_1, d.before a0 Z = true) : (Jvm.Cond.fieldLink "com/example/lapidary/lapidary/rules/gem/Square" (22 : Nat) "com/example/lapidary/lapidary/rules/gem/Square" "row" "I").before a0 Z = true := hw _ (List.mem_of_getElem? (i := 16) rfl)
theorem tw_17 {Z : State} {a0 : Array Value} (hw : ∀ d ∈ tables_1, d.before a0 Z = true) : (Jvm.Cond.laysFinal "com/example/lapidary/lapidary/rules/gem/Square" "com/example/lapidary/lapidary/rules/gem/Square" "row" "I").before a0 Z = true := hw _ (List.mem_of_getElem? (i := 17) rfl)
theorem tw_18 {Z : State} {a0 : Array Value} (hw : ∀ d ∈ tables_1, d.before a0 Z = true) : (Jvm.Cond.methodLink "com/example/lapidary/lapidary/rules/gem/SquareIndexPinLaw" (12 : Nat) ({ cls := "com/example/lapidary/lapidary/rules/gem/Square", name := "index", desc := "()I" } : Jvm.MethodName)).before a0 Z = true := hw _ (List.mem_of_getElem? (i := 18) rfl)
theorem tw_19 {Z : State} {a0 : Array Value} (hw : ∀ d ∈ tables_1, d.before a0 Z = true) : (Jvm.Cond.declares ({ cls := "com/example/lapidary/lapidary/rules/gem/Square", name := "index", desc := "()I" } : Jvm.MethodName)).before a0 Z = true := hw _ (List.mem_of_getElem? (i := 19) rfl)
theorem tw_20 {Z : State} {a0 : Array Value} (hw : ∀ d ∈ tables_1, d.before a0 Z = true) : (Jvm.Cond.instanceMethod ({ cls := "com/example/lapidary/lapidary/rules/gem/Square", name := "index", desc := "()I" } : Jvm.MethodName)).before a0 Z = true := hw _ (List.mem_of_getElem? (i := 20) rfl)
theorem tw_21 {Z : State} {a0 : Array Value} (hw : ∀ d ∈ tables_1, d.before a0 Z = true) : (Jvm.Cond.selects "com/example/lapidary/lapidary/rules/gem/Square" ({ cls := "com/example/lapidary/lapidary/rules/gem/Square", name := "index", desc := "()I" } : Jvm.MethodName) ({ cls := "com/example/lapidary/lapidary/rules/gem/Square", name := "index", desc := "()I" } : Jvm.MethodName)).before a0 Z = true := hw _ (List.mem_of_getElem? (i := 21) rfl)
theorem tw_22 {Z : State} {a0 : Array Value} (hw : ∀ d ∈ tables_1, d.before a0 Z = true) : (Jvm.Cond.code ({ cls := "com/example/lapidary/lapidary/rules/gem/Square", name := "index", desc := "()I" } : Jvm.MethodName) prog_20_method_4_code (1 : Nat) (Option.some Jvm.ClassFile.FieldType.int)).before a0 Z = true := hw _ (List.mem_of_getElem? (i := 22) rfl)
theorem d2_0 : decode jdk_30_method_1_code 0 = .ok (.aload_n 0, 1) := by decide +kernel
theorem d2_1 : decode jdk_30_method_1_code 1 = .ok (.invokespecial 1, 3) := by decide +kernel
theorem d2_4 : decode jdk_30_method_1_code 4 = .ok (.return_, 1) := by decide +kernel
theorem pn_0 : plainName "java/lang/Record" = true := by first | (simp [plainName, overriddenIn]; done) | decide +kernel
abbrev mN_2 : MethodName := ⟨"java/lang/Record", "<init>", "()V"⟩
theorem pd_0 : parseMethodDescriptor "()V" = some ⟨[], none⟩ := by decide +kernel
theorem d1_0 : decode prog_20_method_1_code 0 = .ok (.aload_n 0, 1) := by decide +kernel
theorem d1_1 : decode prog_20_method_1_code 1 = .ok (.invokespecial 3, 3) := by decide +kernel
theorem d1_4 : decode prog_20_method_1_code 4 = .ok (.iload_n 1, 1) := by decide +kernel
theorem d1_5 : decode prog_20_method_1_code 5 = .ok (.ifCond .lt 19, 3) := by decide +kernel
theorem d1_8 : decode prog_20_method_1_code 8 = .ok (.iload_n 1, 1) := by decide +kernel
theorem d1_9 : decode prog_20_method_1_code 9 = .ok (.bipush 8, 2) := by decide +kernel
theorem d1_11 : decode prog_20_method_1_code 11 = .ok (.if_icmp .ge 13, 3) := by decide +kernel
theorem d1_14 : decode prog_20_method_1_code 14 = .ok (.iload_n 2, 1) := by decide +kernel
theorem d1_15 : decode prog_20_method_1_code 15 = .ok (.ifCond .lt 9, 3) := by decide +kernel
theorem d1_18 : decode prog_20_method_1_code 18 = .ok (.iload_n 2, 1) := by decide +kernel
theorem d1_19 : decode prog_20_method_1_code 19 = .ok (.bipush 8, 2) := by decide +kernel
theorem d1_21 : decode prog_20_method_1_code 21 = .ok (.if_icmp .lt 18, 3) := by decide +kernel
theorem d1_39 : decode prog_20_method_1_code 39 = .ok (.aload_n 0, 1) := by decide +kernel
theorem d1_40 : decode prog_20_method_1_code 40 = .ok (.iload_n 1, 1) := by decide +kernel
theorem d1_41 : decode prog_20_method_1_code 41 = .ok (.putfield 18, 3) := by decide +kernel
theorem d1_44 : decode prog_20_method_1_code 44 = .ok (.aload_n 0, 1) := by decide +kernel
theorem d1_45 : decode prog_20_method_1_code 45 = .ok (.iload_n 2, 1) := by decide +kernel
theorem d1_46 : decode prog_20_method_1_code 46 = .ok (.putfield 22, 3) := by decide +kernel
theorem d1_49 : decode prog_20_method_1_code 49 = .ok (.return_, 1) := by decide +kernel
theorem pn_1 : plainName "com/example/lapidary/lapidary/rules/gem/Square" = true := by first | (simp [plainName, overriddenIn]; done) | decide +kernel
abbrev mN_1 : MethodName := ⟨"com/example/lapidary/lapidary/rules/gem/Square", "<init>", "(II)V"⟩
theorem d4_0 : decode prog_20_method_4_code 0 = .ok (.aload_n 0, 1) := by decide +kernel
theorem d4_1 : decode prog_20_method_4_code 1 = .ok (.getfield 22, 3) := by decide +kernel
theorem d4_4 : decode prog_20_method_4_code 4 = .ok (.bipush 8, 2) := by decide +kernel
theorem d4_6 : decode prog_20_method_4_code 6 = .ok (.imul, 1) := by decide +kernel
theorem d4_7 : decode prog_20_method_4_code 7 = .ok (.aload_n 0, 1) := by decide +kernel
theorem d4_8 : decode prog_20_method_4_code 8 = .ok (.getfield 18, 3) := by decide +kernel
theorem d4_11 : decode prog_20_method_4_code 11 = .ok (.iadd, 1) := by decide +kernel
theorem d4_12 : decode prog_20_method_4_code 12 = .ok (.ireturn, 1) := by decide +kernel
abbrev mN_4 : MethodName := ⟨"com/example/lapidary/lapidary/rules/gem/Square", "index", "()I"⟩
theorem pd_1 : parseMethodDescriptor "(II)V" = some ⟨[.int, .int], none⟩ := by decide +kernel
theorem pd_2 : parseMethodDescriptor "()I" = some ⟨[], some .int⟩ := by decide +kernel
theorem pn_2 : plainName "com/example/lapidary/lapidary/rules/gem/SquareIndexPinLaw" = true := by first | (simp [plainName, overriddenIn]; done) | decide +kernel
theorem ef_2 (m : MethodId) (x0 : Addr) : entryFrame m #[(.ref x0)] 1 = mkF m 0 #[.val (.ref x0)] [] := by first | (simp [entryFrame, mkF, argsToLocals, Value.category]; done) | rfl
def Q2 (Z : State) (a : Addr) (h0 : Heap) (n0 : Nat) (v : Option Value) (h : Heap) (L : List Loc) : Prop := v = none ∧ Fr n0 L ∧ h = h0
set_option maxRecDepth 65536 in
set_option maxHeartbeats 40000000 in
theorem rm2 (l : Launch) (Z : State) (a0 : Array Value) (hw : ∀ d ∈ tables_1, d.before a0 Z = true) (ws : List Jvm.Cond) (a : Addr) (h0 : Heap) (n0 : Nat) (Z0 : n0 ≤ h0.size) :
    CT l mN_2 jdk_30_method_1_code 1 none ws ({ frames := 1, cells := 0, slots := 0, locals := 12 } : Room) #[(.ref a)] Z h0 (Q2 Z a h0 n0) := by
  refine body_of (plainFor_of_name pn_0) ?_
  intro p e s m below meth c s₁ hx dB hret hlk hml hown0 hnm X0 e0 hZ
  have hown : s.vm.findClass cN_0 = some m.cls := hown0
  have N0 := Fr.nil n0
  rw [ef_2]
  show Wk p e below (FN s (Q2 Z a h0 n0) 0 0) s₁ (mkF m 0 #[.val (.ref a)] [])
  refine w_aloadN X0 hx (.ref a) (dB d2_0) 1 rfl rfl rfl ?_
  refine w_objinit X0 hx hZ hown e0 (tw_11 hw) (tw_12 hw) (tw_13 hw) (by rw [hml]; rfl) (by decide) 0 rfl (by decide) (dB d2_1) 4 rfl (fun T1 X1 e1 => ?_)
  refine w_ret0 X1 hx hlk hret (dB d2_4) (by decide) (by decide) ?_
  rw [e1]
  exact ⟨rfl, N0, rfl⟩
theorem ef_1 (m : MethodId) (x0 : Addr) (x1 : Int32) (x2 : Int32) : entryFrame m #[(.ref x0), (.int x1), (.int x2)] 3 = mkF m 0 #[.val (.ref x0), .val (.int x1), .val (.int x2)] [] := by first | (simp [entryFrame, mkF, argsToLocals, Value.category]; done) | rfl
def Q1 (Z : State) (a : Addr) (xc : Int32) (xr : Int32) (h0 : Heap) (n0 : Nat) (v : Option Value) (h : Heap) (L : List Loc) : Prop := v = none ∧ Fr n0 L ∧ Keep h0 h [a] ∧ Fld Z h a cN_1 "column" "I" (.int xc) ∧ Fld Z h a cN_1 "row" "I" (.int xr)
set_option maxRecDepth 65536 in
set_option maxHeartbeats 40000000 in
theorem rm1 (l : Launch) (Z : State) (a0 : Array Value) (hw : ∀ d ∈ tables_1, d.before a0 Z = true) (ws : List Jvm.Cond) (a : Addr) (xc : Int32) (xr : Int32) (h0 : Heap) (n0 : Nat) (Z0 : n0 ≤ h0.size) (E_a : Exa Z h0 a cN_1) (F_column_a : Fld Z h0 a cN_1 "column" "I" (.int (0 : Int32))) (F_row_a : Fld Z h0 a cN_1 "row" "I" (.int (0 : Int32))) (g_a : n0 ≤ a) (p0 : 0 ≤ xc.toInt) (p1 : xc.toInt < 8) (p2 : 0 ≤ xr.toInt) (p3 : xr.toInt < 8) :
    CT l mN_1 prog_20_method_1_code 3 none ws ({ frames := 2, cells := 0, slots := 0, locals := 24 } : Room) #[(.ref a), (.int xc), (.int xr)] Z h0 (Q1 Z a xc xr h0 n0) := by
  refine body_of (plainFor_of_name pn_1) ?_
  intro p e s m below meth c s₁ hx dB hret hlk hml hown0 hnm X0 e0 hZ
  have hown : s.vm.findClass cN_1 = some m.cls := hown0
  have N0 := Fr.nil n0
  rw [ef_1]
  show Wk p e below (FN s (Q1 Z a xc xr h0 n0) 0 0) s₁ (mkF m 0 #[.val (.ref a), .val (.int xc), .val (.int xr)] [])
  have r_xc := rng32 xc
  have r_xr := rng32 xr
  refine w_aloadN X0 hx (.ref a) (dB d1_0) 1 rfl rfl rfl ?_
  refine w_init X0 hx hZ rfl hown e0 (rm2 l Z a0 hw [] a h0 n0 Z0 ) (tw_6 hw) (tw_7 hw) (tw_9 hw) (tw_10 hw) (by decide) (by rw [hml]; rfl) a [] [] (lenOf pd_0 rfl) rfl rfl (by decide) 0 rfl (by decide) (by decide) (by decide) (dB d1_1) 4 rfl (fun r2 T2 L2 X2 q2 => ?_)
  obtain ⟨rfl, Nq2, eq2⟩ := q2
  have N2 := Fr.app N0 Nq2
  dsimp only [Option.toList_some, Option.toList_none, List.cons_append, List.nil_append]
  refine w_iloadN X2 hx xc (dB d1_4) 5 rfl rfl ?_
  refine w_if_lt X2 hx xc.toInt rfl (dB d1_5) 24 8 (fun c3 => ?_) (fun c3 => ?_)
  ·exfalso; omega
  ·refine w_iloadN X2 hx xc (dB d1_8) 9 rfl rfl ?_
   refine w_bipush X2 hx (dB d1_9) 11 rfl (8 : Int32) (by decide) ?_
   refine w_icmp_ge X2 hx xc.toInt 8 rfl (by decide) (dB d1_11) 24 14 (fun c4 => ?_) (fun c4 => ?_)
   ·exfalso; omega
   ·refine w_iloadN X2 hx xr (dB d1_14) 15 rfl rfl ?_
    refine w_if_lt X2 hx xr.toInt rfl (dB d1_15) 24 18 (fun c5 => ?_) (fun c5 => ?_)
    ·exfalso; omega
    ·refine w_iloadN X2 hx xr (dB d1_18) 19 rfl rfl ?_
     refine w_bipush X2 hx (dB d1_19) 21 rfl (8 : Int32) (by decide) ?_
     refine w_icmp_lt X2 hx xr.toInt 8 rfl (by decide) (dB d1_21) 39 24 (fun c6 => ?_) (fun c6 => ?_)
     ·refine w_aloadN X2 hx (.ref a) (dB d1_39) 40 rfl rfl rfl ?_
      refine w_iloadN X2 hx xc (dB d1_40) 41 rfl rfl ?_
      refine w_putF X2 hx hZ hown eq2 (host := "") (Or.inl (tw_14 hw)) Via.refl F_column_a E_a (Or.inr ⟨(tw_15 hw), rfl, hnm⟩) (tw_1 hw) (ty := .int) (by decide) rfl rfl (dB d1_41) 44 rfl (fun T7 h7 X7 e7 W7 => ?_)
      have F8 : Exa Z h7 a cN_1 := E_a.wr W7
      have F9 : Fld Z h7 a cN_1 "column" "I" (.int xc) := F_column_a.same W7
      have F10 : Fld Z h7 a cN_1 "row" "I" (.int (0 : Int32)) := F_row_a.other W7 (Or.inr (slot_ne (Or.inr (tw_17 hw)) (Or.inr (tw_15 hw)) (by decide) (t := .int) (t' := .int) (by decide) (by decide)))
      have Z7 : n0 ≤ h7.size := by rw [W7.size]; exact Z0
      have K7 : Keep h0 h7 [a] := (Keep.refl h0 [a]).wr W7 (Or.inl (List.mem_of_getElem? (i := 0) rfl))
      have N7 := Fr.snoc X7 N2 g_a
      refine w_aloadN X7 hx (.ref a) (dB d1_44) 45 rfl rfl rfl ?_
      refine w_iloadN X7 hx xr (dB d1_45) 46 rfl rfl ?_
      refine w_putF X7 hx hZ hown e7 (host := "") (Or.inl (tw_16 hw)) Via.refl F10 F8 (Or.inr ⟨(tw_17 hw), rfl, hnm⟩) (tw_1 hw) (ty := .int) (by decide) rfl rfl (dB d1_46) 49 rfl (fun T11 h11 X11 e11 W11 => ?_)
      have F12 : Exa Z h11 a cN_1 := F8.wr W11
      have F13 : Fld Z h11 a cN_1 "column" "I" (.int xc) := F9.other W11 (Or.inr (slot_ne (Or.inr (tw_15 hw)) (Or.inr (tw_17 hw)) (by decide) (t := .int) (t' := .int) (by decide) (by decide)))
      have F14 : Fld Z h11 a cN_1 "row" "I" (.int xr) := F10.same W11
      have Z11 : n0 ≤ h11.size := by rw [W11.size]; exact Z7
      have K11 : Keep h0 h11 [a] := K7.wr W11 (Or.inl (List.mem_of_getElem? (i := 0) rfl))
      have N11 := Fr.snoc X11 N7 g_a
      refine w_ret0 X11 hx hlk hret (dB d1_49) (by decide) (by decide) ?_
      rw [e11]
      exact ⟨rfl, N11, K11, F13, F14⟩
     ·exfalso; omega
theorem ef_4 (m : MethodId) (x0 : Addr) : entryFrame m #[(.ref x0)] 1 = mkF m 0 #[.val (.ref x0)] [] := by first | (simp [entryFrame, mkF, argsToLocals, Value.category]; done) | rfl
def Q4 (Z : State) (a : Addr) (xc : Int32) (xr : Int32) (h0 : Heap) (n0 : Nat) (v : Option Value) (h : Heap) (L : List Loc) : Prop := ∃ z : Int32, v = some (.int z) ∧ (z.toInt = xr.toInt * 8 + xc.toInt) ∧ Fr n0 L ∧ h = h0
set_option maxRecDepth 65536 in
set_option maxHeartbeats 40000000 in
theorem rm4 (l : Launch) (Z : State) (a0 : Array Value) (hw : ∀ d ∈ tables_1, d.before a0 Z = true) (ws : List Jvm.Cond) (a : Addr) (xc : Int32) (xr : Int32) (h0 : Heap) (n0 : Nat) (Z0 : n0 ≤ h0.size) (F_column_a : Fld Z h0 a cN_1 "column" "I" (.int xc)) (F_row_a : Fld Z h0 a cN_1 "row" "I" (.int xr)) (p0 : 0 ≤ xc.toInt) (p1 : xc.toInt < 8) (p2 : 0 ≤ xr.toInt) (p3 : xr.toInt < 8) :
    CT l mN_4 prog_20_method_4_code 1 (some .int) ws ({ frames := 0, cells := 0, slots := 0, locals := 0 } : Room) #[(.ref a)] Z h0 (Q4 Z a xc xr h0 n0) := by
  refine body_of (plainFor_of_name pn_1) ?_
  intro p e s m below meth c s₁ hx dB hret hlk hml hown0 hnm X0 e0 hZ
  have hown : s.vm.findClass cN_1 = some m.cls := hown0
  have N0 := Fr.nil n0
  rw [ef_4]
  show Wk p e below (FN s (Q4 Z a xc xr h0 n0) 0 0) s₁ (mkF m 0 #[.val (.ref a)] [])
  refine w_aloadN X0 hx (.ref a) (dB d4_0) 1 rfl rfl rfl ?_
  refine w_getF X0 hx hZ hown e0 (host := "") (Or.inl (tw_16 hw)) Via.refl F_row_a (dB d4_1) 4 rfl (fun T15 X15 e15 => ?_)
  refine w_bipush X15 hx (dB d4_4) 6 rfl (8 : Int32) (by decide) ?_
  obtain ⟨v16, e16⟩ : ∃ z : Int32, z = xr * (8 : Int32) := ⟨_, rfl⟩
  have n16 : v16.toInt = xr.toInt * 8 := by rw [e16]; exact mulX rfl (by decide) (by omega) (by omega)
  refine w_imul X15 hx (dB d4_6) 7 rfl e16 ?_
  refine w_aloadN X15 hx (.ref a) (dB d4_7) 8 rfl rfl rfl ?_
  refine w_getF X15 hx hZ hown e15 (host := "") (Or.inl (tw_14 hw)) Via.refl F_column_a (dB d4_8) 11 rfl (fun T17 X17 e17 => ?_)
  obtain ⟨v18, e18⟩ : ∃ z : Int32, z = v16 + xc := ⟨_, rfl⟩
  have n18 : v18.toInt = v16.toInt + xc.toInt := by rw [e18]; exact addX rfl rfl (by omega) (by omega)
  refine w_iadd X17 hx (dB d4_11) 12 rfl e18 ?_
  refine w_retI X17 hx hlk hret (dB d4_12) (by decide) (by decide) ?_
  rw [e17]
  exact ⟨v18, rfl, by have hz : v18.toInt = v18.toInt := rfl; omega, N0, rfl⟩
theorem ef_0 (m : MethodId) (x0 : Int32) (x1 : Int32) : entryFrame m #[(.int x0), (.int x1)] maxLocals = mkF m 0 #[.val (.int x0), .val (.int x1), .unset, .unset, .unset, .unset] [] := by first | (simp [entryFrame, mkF, argsToLocals, Value.category, maxLocals]; done) | rfl
def Q0 (Z : State) (a : Int32) (b : Int32) (h0 : Heap) (n0 : Nat) (v : Option Value) (h : Heap) (L : List Loc) : Prop := v = some (.int 1) ∧ Fr n0 L
set_option maxRecDepth 65536 in
set_option maxHeartbeats 40000000 in
theorem rm0 (l : Launch) (Z : State) (a0 : Array Value) (hw : ∀ d ∈ tables_1, d.before a0 Z = true) (ws : List Jvm.Cond) (a : Int32) (b : Int32) (h0 : Heap) (n0 : Nat) (Z0 : n0 ≤ h0.size) :
    MetFree l x (head1 (Jvm.Cond.code x code maxLocals ret :: ws) room_1) (fun as_ U => as_ = #[(.int a), (.int b)] ∧ Z.Warmed39 U.vm ∧ U.heap = h0) (fun _ _ _ _ _ => True) (fun _ U o U' => ∃ v L, o = .returned v ∧ Q0 Z a b h0 n0 v U'.heap L ∧ FrameEnd U o U' L 1 2) := by
  refine body_of (plainFor_of_name pn_2) ?_
  intro p e s m below meth c s₁ hx dB hret hlk hml hown0 hnm X0 e0 hZ
  have hown : s.vm.findClass cN_2 = some m.cls := hown0
  have N0 := Fr.nil n0
  rw [ef_0]
  show Wk p e below (FN s (Q0 Z a b h0 n0) 1 2) s₁ (mkF m 0 #[.val (.int a), .val (.int b), .unset, .unset, .unset, .unset] [])
  have r_a := rng32 a
  have r_b := rng32 b
  refine w_iloadN X0 hx a (dB at_0) 1 rfl rfl ?_
  refine w_bipush X0 hx (dB at_1) 3 rfl (7 : Int32) (by decide) ?_
  obtain ⟨v19, e19⟩ : ∃ z : Int32, z = a &&& (7 : Int32) := ⟨_, rfl⟩
  have n19 : v19.toInt = a.toInt % 8 := by rw [e19]; exact maskX 3 rfl (by decide) (by decide)
  refine w_iand X0 hx (dB at_3) 4 rfl e19 ?_
  refine w_istoreN X0 hx (dB at_4) 5 rfl #[.val (.int a), .val (.int b), .val (.int v19), .unset, .unset, .unset] rfl ?_
  refine w_iloadN X0 hx b (dB at_5) 6 rfl rfl ?_
  refine w_bipush X0 hx (dB at_6) 8 rfl (7 : Int32) (by decide) ?_
  obtain ⟨v20, e20⟩ : ∃ z : Int32, z = b &&& (7 : Int32) := ⟨_, rfl⟩
  have n20 : v20.toInt = b.toInt % 8 := by rw [e20]; exact maskX 3 rfl (by decide) (by decide)
  refine w_iand X0 hx (dB at_8) 9 rfl e20 ?_
  refine w_istoreN X0 hx (dB at_9) 10 rfl #[.val (.int a), .val (.int b), .val (.int v19), .val (.int v20), .unset, .unset] rfl ?_
  refine w_new X0 hx hZ hown e0 (tw_0 hw) (tw_1 hw) (tw_2 hw) (by decide) (by decide) (dB at_10) 13 rfl (fun T21 h21 a21 X21 e21 g21 E21 A21 D21 => ?_)
  have g_a21 : n0 ≤ a21 := Nat.le_trans Z0 (Nat.le_of_eq g21.symm)
  have s_a21 : h0.size ≤ a21 := Nat.le_trans (Keep.refl h0 []).1 (Nat.le_of_eq g21.symm)
  have Z21 : n0 ≤ h21.size := Nat.le_trans Z0 E21.1
  have K21 : Keep h0 h21 [] := (Keep.refl h0 []).ext E21
  have F22 : Fld Z h21 a21 cN_1 "column" "I" (.int (0 : Int32)) := D21 (Or.inr (tw_15 hw)) (ty := .int) (by decide)
  have F23 : Fld Z h21 a21 cN_1 "row" "I" (.int (0 : Int32)) := D21 (Or.inr (tw_17 hw)) (ty := .int) (by decide)
  refine w_dup X21 hx (dB at_13) 14 rfl rfl ?_
  refine w_iloadN X21 hx v19 (dB at_14) 15 rfl rfl ?_
  refine w_iloadN X21 hx v20 (dB at_15) 16 rfl rfl ?_
  refine w_init X21 hx hZ rfl hown e21 (rm1 l Z a0 hw [] a21 v19 v20 h21 n0 Z21 A21 F22 F23 g_a21 (by omega) (by omega) (by omega) (by omega)) (tw_3 hw) (tw_4 hw) (tw_2 hw) (tw_5 hw) (by decide) (by rw [hml]; rfl) a21 [(.int v19), (.int v20)] [(.ref a21)] (lenOf pd_1 rfl) rfl rfl (by decide) 1 rfl (by decide) (by decide) (by decide) (dB at_16) 19 rfl (fun r24 T24 L24 X24 q24 => ?_)
  obtain ⟨rfl, Nq24, Kq24, G24_0, G24_1⟩ := q24
  have N24 := Fr.app N0 Nq24
  have F25 : Exa Z T24.heap a21 cN_1 := A21.keep Kq24
  have Z24 : n0 ≤ T24.heap.size := Nat.le_trans Z21 Kq24.1
  have K24 : Keep h0 T24.heap [] := K21.trans Kq24 (allS (Or.inr s_a21) all0)
  dsimp only [Option.toList_some, Option.toList_none, List.cons_append, List.nil_append]
  refine w_astore X24 hx (dB at_19) 21 rfl rfl #[.val (.int a), .val (.int b), .val (.int v19), .val (.int v20), .val (.ref a21), .unset] rfl ?_
  refine w_aload X24 hx (.ref a21) (dB at_21) 23 rfl rfl rfl ?_
  refine w_virt X24 hx hZ hown rfl (rm4 l Z a0 hw [] a21 v19 v20 T24.heap n0 Z24 G24_0 G24_1 (by omega) (by omega) (by omega) (by omega)) (tw_18 hw) (tw_19 hw) (notFace_of_selects (args := #[]) (mvT hZ (tw_21 hw))) (tw_21 hw) (tw_20 hw) (tw_2 hw) (tw_22 hw) (by decide) a21 F25 (by rw [hml]; rfl) [] [] (lenOf pd_2 rfl) rfl rfl (by decide) 0 rfl (by decide) (by decide) (by decide) (dB at_23) 26 rfl (fun r26 T26 L26 X26 q26 => ?_)
  obtain ⟨z26, rfl, f26, Nq26, eq26⟩ := q26
  have N26 := Fr.app N24 Nq26
  dsimp only [Option.toList_some, Option.toList_none, List.cons_append, List.nil_append]
  refine w_istore X26 hx (dB at_26) 28 rfl #[.val (.int a), .val (.int b), .val (.int v19), .val (.int v20), .val (.ref a21), .val (.int z26)] rfl ?_
  refine w_iload X26 hx z26 (dB at_28) 30 rfl rfl ?_
  refine w_if_lt X26 hx z26.toInt rfl (dB at_30) 62 33 (fun c27 => ?_) (fun c27 => ?_)
  ·exfalso; omega
  ·refine w_iload X26 hx z26 (dB at_33) 35 rfl rfl ?_
   refine w_bipush X26 hx (dB at_35) 37 rfl (64 : Int32) (by decide) ?_
   refine w_icmp_ge X26 hx z26.toInt 64 rfl (by decide) (dB at_37) 62 40 (fun c28 => ?_) (fun c28 => ?_)
   ·exfalso; omega
   ·refine w_iload X26 hx z26 (dB at_40) 42 rfl rfl ?_
    refine w_bipush X26 hx (dB at_42) 44 rfl (8 : Int32) (by decide) ?_
    obtain ⟨v29, e29⟩ : ∃ z : Int32, z = z26 % (8 : Int32) := ⟨_, rfl⟩
    have n29 : v29.toInt = z26.toInt % 8 := by rw [e29]; exact iremX rfl (by decide) (by omega)
    refine w_irem X26 hx (dB at_44) 45 rfl (by decide) e29 ?_
    refine w_iloadN X26 hx v19 (dB at_45) 46 rfl rfl ?_
    refine w_icmp_ne X26 hx v29.toInt v19.toInt rfl rfl (dB at_46) 62 49 (fun c30 => ?_) (fun c30 => ?_)
    ·exfalso; omega
    ·refine w_iload X26 hx z26 (dB at_49) 51 rfl rfl ?_
     refine w_bipush X26 hx (dB at_51) 53 rfl (8 : Int32) (by decide) ?_
     obtain ⟨v31, e31⟩ : ∃ z : Int32, z = z26 / (8 : Int32) := ⟨_, rfl⟩
     have n31 : v31.toInt = z26.toInt / 8 := by rw [e31]; exact idivX rfl (by decide) (by decide) (by omega)
     refine w_idiv X26 hx (dB at_53) 54 rfl (by decide) e31 ?_
     refine w_iloadN X26 hx v20 (dB at_54) 55 rfl rfl ?_
     refine w_icmp_ne X26 hx v31.toInt v20.toInt rfl rfl (dB at_55) 62 58 (fun c32 => ?_) (fun c32 => ?_)
     ·exfalso; omega
     ·refine w_iconst X26 hx (dB at_58) 59 rfl (1 : Int32) (by decide) ?_
      refine w_goto X26 hx (dB at_59) 63 ?_
      refine w_retN X26 hx hlk (t := .boolean) hret (by simp) (dB at_63) (by decide) (by decide) ?_
      rw [eq26]
      exact ⟨rfl, N26⟩
set_option maxRecDepth 65536 in
set_option maxHeartbeats 40000000 in
theorem comes_1 {Post : Tables → Env → Array Value → State → Outcome → State → Prop} (hpost : ∀ tb e args s v u, (limb_1_1.after args s (.returned v) u = true ∧ limb_1_2.after args s (.returned v) u = true ∧ True) → FrameEnd s (.returned v) u (Jvm.fieldLocs frame_1_writes args s ++ Jvm.arrayLocs frame_1_arrays args s ++ Jvm.staticLocs frame_1_statics s) 16 128 → Post tb e args s (.returned v) u) :
    ArmFor flags0 classFile x code maxLocals ret World_1 tables_1 room_1 Calls_1 rest_1 Pre_1 Post := by
  intro l hfl _ _ p e ha hc hk s m args below hf hA hF happ hP
  obtain ⟨hcalls, hrest, hpre⟩ := hP
  obtain ⟨-, -, -, hnamed, -, -, -, hat⟩ := (Spec.applies_iff hf).mp happ
  obtain ⟨hg, hn⟩ := and_e (Cond.before_iff.mp (show (Jvm.Cond.and given_1 narrow_1).before args s = true from hpre))
  obtain ⟨gg1, gg2⟩ := and_e hg
  obtain ⟨gg3, gg4⟩ := and_e gg2
  obtain ⟨w0, w1, rfl⟩ : ∃ w0 w1 : Value, args = #[w0, w1] := by
    have hs : args.size = 2 := by simpa [Cond.value, given_1] using gg1
    obtain ⟨L⟩ := args
    match L, hs with
    | [w0, w1], _ => exact ⟨w0, w1, rfl⟩
  have hw := fun d (hd : d ∈ tables_1) => atoms_spec (ws := Jvm.Cond.code x code maxLocals ret :: tables_1) hat d (List.mem_cons_of_mem _ hd)
  have hfit : Fit s := fun {y c} hc i hi => by
    obtain ⟨ha, rfl⟩ := Array.getElem?_eq_some_iff.mp hc
    have q := List.all_eq_true.mp ((Array.all_eq_true_iff_forall_mem.mp hF) _ (Array.getElem_mem ha)) i (List.mem_range.mpr hi)
    simpa [Array.getElem?_eq_getElem hi] using q
  obtain ⟨i0, ei0⟩ := is_v gg3
  obtain rfl : w0 = (.int i0) := Option.some.inj ei0
  obtain ⟨i1, ei1⟩ := is_v gg4
  obtain rfl : w1 = (.int i1) := Option.some.inj ei1
  obtain ⟨n, o, h1, h2, h3, _, L, rfl, ⟨rfl, N⟩, hq⟩ := rm0 l s _ hw tables_1 i0 i1 s.heap s.heap.size (Nat.le_refl _) p e ha hc hk s m _ below hf ((Spec.applies_iff_loose hf).mp happ).1 ⟨rfl, State.Warmed39.refl s, rfl⟩ trivial
  refine ⟨n, _, h1, h2, h3, hpost _ _ _ _ _ _ ⟨Cond.after_iff.mpr rfl, Cond.after_iff.mpr (eq_i res_at (Term.int_eval (1)) rfl), trivial⟩ ⟨hq.1, hq.2.1, (hq.2.2.sift fun y hy => Or.inr (N y hy)).mono (by decide) (by decide)⟩⟩
theorem main_1_1 : Claimed_1_1 := comes_1 fun _ _ _ _ _ _ h hF => ⟨h.1, hF⟩
theorem main_1_2 : Claimed_1_2 := comes_1 fun _ _ _ _ _ _ h hF => ⟨h.2.1, hF⟩
end Jvm.Pilot.@@N@@
namespace Jvm.Pilot.@@N@@
open Jvm Jvm.ClassFile Sem Op Lib Jvm.Free Jvm.Stand Jvm.Pilot.@@N@@.Jvm.D
/-! MADE BY PROGRAM (witnessworld.py) out of the Statement's table words and the real class files: 10 classes; the members and pool entries that the words name. The judged class is class 1, her method 1. -/
namespace start1
open Jvm.ClassFile
def u (s : String) : CpInfo := .utf8 (stringToUtf16 s)
/-- a pool by its gaps: so many unusable entries, then the entry; so many at the end -/
def gap : Nat → List CpInfo → List CpInfo
  | 0, r => r
  | n + 1, r => .unusable :: gap n r
def poolList (es : List (Nat × CpInfo)) (last : Nat) : List CpInfo := es.foldr (fun e r => gap e.1 (e.2 :: r)) (gap last [])
def pool (es : List (Nat × CpInfo)) (last : Nat) : Array CpInfo := ⟨poolList es last⟩
def fileOf (pool : Array CpInfo) (this : Nat) (attrs : Array Attribute := #[]) (ms : Array MethodInfo := #[]) (fl : Nat := 33) (sup : Nat := 0) (ifs : Array Nat := #[]) (fds : Array FieldInfo := #[]) : ClassFile where
  minorVersion := 0
  majorVersion := 65
  constantPool := pool
  accessFlags := fl
  thisClass := this
  superClass := sup
  interfaces := ifs
  fields := fds
  methods := ms
  attributes := attrs
def plain (name : String) (sup : Option ClassId) : Class where
  name := name
  kind := .ordinary
  loader := none
  accessFlags := 33
  super := sup
  interfaces := #[]
  cf := none
  fields := #[]
  methods := #[]
  instanceTypes := #[]
  staticTypes := #[]
  resolved := #[]
  callSites := []
  init := .initialized
  statics := none
  mirror := none

def pool0 : Array CpInfo := pool [(5, u "<init>"), (0, u "()V"), (1, .class_ 10), (1, u "java/lang/Object")] 113

def k0c0 : Code := { maxStack := 0, maxLocals := 1, code := object_method_1_code, exceptionTable := #[], attributes := #[] }
def k0m0 : Method := { name := "<init>", desc := "()V", sig := { parameters := [], returnType := none }, accessFlags := 1, code := some k0c0 }
/-- java/lang/Object -/
def k0 : Class := { plain "java/lang/Object" none with
  accessFlags := 33
  interfaces := #[]
  cf := some (fileOf pool0 8 #[] #[{ accessFlags := 1, nameIndex := 5, descriptorIndex := 6, attributes := #[] }] 33 0 #[] #[])
  fields := #[]
  methods := #[k0m0]
  instanceTypes := #[]
  staticTypes := #[]
  resolved := Array.replicate 124 none
  statics := none }

def pool1 : Array CpInfo := pool [(2, .class_ 4), (1, u "java/lang/Object"), (0, u "<init>"), (0, u "()V"), (0, .class_ 8), (0, u "com/example/lapidary/lapidary/rules/gem/Square"), (0, .methodref 7 10), (0, .nameAndType 5 11), (0, u "(II)V"), (0, .methodref 7 13), (0, .nameAndType 14 15), (0, u "index"), (0, u "()I"), (0, .class_ 17), (0, u "com/example/lapidary/lapidary/rules/gem/SquareIndexPinLaw"), (2, u "law"), (0, u "(II)Z")] 3

def k1m0 : Method := { name := "<init>", desc := "()V", sig := { parameters := [], returnType := none }, accessFlags := 1, code := none }
def k1c1 : Code := { maxStack := 4, maxLocals := 6, code := code, exceptionTable := #[], attributes := #[] }
def k1m1 : Method := { name := "law", desc := "(II)Z", sig := { parameters := [.int, .int], returnType := some .boolean }, accessFlags := 9, code := some k1c1 }
/-- com/example/lapidary/lapidary/rules/gem/SquareIndexPinLaw -/
def k1 : Class := { plain "com/example/lapidary/lapidary/rules/gem/SquareIndexPinLaw" (some 0) with
  accessFlags := 49
  interfaces := #[]
  cf := some (fileOf pool1 16 #[] #[{ accessFlags := 1, nameIndex := 5, descriptorIndex := 6, attributes := #[] }, { accessFlags := 9, nameIndex := 20, descriptorIndex := 21, attributes := #[] }] 49 2 #[] #[])
  fields := #[]
  methods := #[k1m0, k1m1]
  instanceTypes := #[]
  staticTypes := #[]
  resolved := Array.replicate 25 none
  statics := none }

def pool2 : Array CpInfo := pool [(1, .methodref 2 3), (0, .class_ 4), (0, .nameAndType 5 6), (0, u "java/lang/Object"), (0, u "<init>"), (0, u "()V"), (0, .class_ 8), (0, u "java/lang/Record")] 13

def k2c0 : Code := { maxStack := 1, maxLocals := 1, code := jdk_30_method_1_code, exceptionTable := #[], attributes := #[] }
def k2m0 : Method := { name := "<init>", desc := "()V", sig := { parameters := [], returnType := none }, accessFlags := 4, code := some k2c0 }
/-- java/lang/Record -/
def k2 : Class := { plain "java/lang/Record" (some 0) with
  accessFlags := 1057
  interfaces := #[]
  cf := some (fileOf pool2 7 #[] #[{ accessFlags := 4, nameIndex := 5, descriptorIndex := 6, attributes := #[] }] 1057 2 #[] #[])
  fields := #[]
  methods := #[k2m0]
  instanceTypes := #[]
  staticTypes := #[]
  resolved := Array.replicate 22 none
  statics := none }

def pool3 : Array CpInfo := pool [(1, .class_ 2), (0, u "com/example/lapidary/lapidary/rules/gem/Square"), (0, .methodref 4 5), (0, .class_ 6), (0, .nameAndType 7 8), (0, u "java/lang/Record"), (0, u "<init>"), (0, u "()V"), (9, .fieldref 1 19), (0, .nameAndType 20 21), (0, u "column"), (0, u "I"), (0, .fieldref 1 23), (0, .nameAndType 24 21), (0, u "row"), (2, u "NAME"), (0, u "Ljava/util/regex/Pattern;"), (31, u "BY_INDEX"), (0, u "[Lcom/example/lapidary/lapidary/rules/gem/Square;"), (2, u "(II)V"), (51, u "SIDE"), (2, u "COUNT"), (1, u "TILE_SIDE"), (1, u "TILES"), (7, u "index"), (0, u "()I")] 59

def k3c0 : Code := { maxStack := 4, maxLocals := 3, code := prog_20_method_1_code, exceptionTable := #[], attributes := #[] }
def k3m0 : Method := { name := "<init>", desc := "(II)V", sig := { parameters := [.int, .int], returnType := none }, accessFlags := 1, code := some k3c0 }
def k3c1 : Code := { maxStack := 2, maxLocals := 1, code := prog_20_method_4_code, exceptionTable := #[], attributes := #[] }
def k3m1 : Method := { name := "index", desc := "()I", sig := { parameters := [], returnType := some .int }, accessFlags := 0, code := some k3c1 }
/-- com/example/lapidary/lapidary/rules/gem/Square -/
def k3 : Class := { plain "com/example/lapidary/lapidary/rules/gem/Square" (some 2) with
  accessFlags := 49
  interfaces := #[]
  cf := some (fileOf pool3 1 #[] #[{ accessFlags := 1, nameIndex := 7, descriptorIndex := 64, attributes := #[] }, { accessFlags := 0, nameIndex := 131, descriptorIndex := 132, attributes := #[] }] 49 4 #[] #[{ accessFlags := 18, nameIndex := 20, descriptorIndex := 21, attributes := #[] }, { accessFlags := 18, nameIndex := 24, descriptorIndex := 21, attributes := #[] }, { accessFlags := 25, nameIndex := 116, descriptorIndex := 21, attributes := #[] }, { accessFlags := 25, nameIndex := 119, descriptorIndex := 21, attributes := #[] }, { accessFlags := 26, nameIndex := 121, descriptorIndex := 21, attributes := #[] }, { accessFlags := 24, nameIndex := 123, descriptorIndex := 21, attributes := #[] }, { accessFlags := 26, nameIndex := 27, descriptorIndex := 28, attributes := #[] }, { accessFlags := 26, nameIndex := 60, descriptorIndex := 61, attributes := #[] }])
  fields := #[{ name := "column", type := .int, accessFlags := 18, slot := 0, constantValue := 0 }, { name := "row", type := .int, accessFlags := 18, slot := 1, constantValue := 0 }, { name := "SIDE", type := .int, accessFlags := 25, slot := 0, constantValue := 0 }, { name := "COUNT", type := .int, accessFlags := 25, slot := 1, constantValue := 0 }, { name := "TILE_SIDE", type := .int, accessFlags := 26, slot := 2, constantValue := 0 }, { name := "TILES", type := .int, accessFlags := 24, slot := 3, constantValue := 0 }, { name := "NAME", type := (.object "java/util/regex/Pattern"), accessFlags := 26, slot := 4, constantValue := 0 }, { name := "BY_INDEX", type := (.array (.object "com/example/lapidary/lapidary/rules/gem/Square")), accessFlags := 26, slot := 5, constantValue := 0 }]
  methods := #[k3m0, k3m1]
  instanceTypes := #[.int, .int]
  staticTypes := #[.int, .int, .int, .int, (.object "java/util/regex/Pattern"), (.array (.object "com/example/lapidary/lapidary/rules/gem/Square"))]
  resolved := Array.replicate 192 none
  statics := none }

def pool4 : Array CpInfo := pool [(1, u "java/lang/Cloneable"), (0, .class_ 1), (0, u "java/lang/Object"), (0, .class_ 3)] 3

/-- java/lang/Cloneable -/
def k4 : Class := { plain "java/lang/Cloneable" (some 0) with
  accessFlags := 1537
  interfaces := #[]
  cf := some (fileOf pool4 2 #[] #[] 1537 4 #[] #[])
  fields := #[]
  methods := #[]
  instanceTypes := #[]
  staticTypes := #[]
  resolved := Array.replicate 8 none
  statics := none }

def pool5 : Array CpInfo := pool [(1, u "java/io/Serializable"), (0, .class_ 1), (0, u "java/lang/Object"), (0, .class_ 3)] 3

/-- java/io/Serializable -/
def k5 : Class := { plain "java/io/Serializable" (some 0) with
  accessFlags := 1537
  interfaces := #[]
  cf := some (fileOf pool5 2 #[] #[] 1537 4 #[] #[])
  fields := #[]
  methods := #[]
  instanceTypes := #[]
  staticTypes := #[]
  resolved := Array.replicate 8 none
  statics := none }

/-- the primitive byte -/
def k6 : Class := { plain "byte" none with kind := .primitive 'B', accessFlags := 0x411 }
/-- [B -/
def k7 : Class := { plain "[B" (some 0) with kind := .array 6 .byte, interfaces := #[4, 5], accessFlags := 1041 }

/-- the primitive int -/
def k8 : Class := { plain "int" none with kind := .primitive 'I', accessFlags := 0x411 }
/-- [I -/
def k9 : Class := { plain "[I" (some 0) with kind := .array 8 .int, interfaces := #[4, 5], accessFlags := 1041 }

def heap : Heap := #[]
def classes : Array Class := #[k0, k1, k2, k3, k4, k5, k6, k7, k8, k9]
def interned : List (Array UInt16 × Addr) := []
def slotsUsed : Nat := 0
def theMethod : MethodId := ⟨1, 1⟩
def args0 : Array Value := #[.int 5, .int 7]
def aboutOver (below : List Frame) : State where
  vm := { classes := classes, interned := interned.toArray }
  heap := heap
  slotsUsed := slotsUsed
  threads := #[{ frames := .invoking theMethod args0 :: below }]
def below0 : List Frame := [.native { method := ⟨0, 0⟩, args := #[] }]
def about1 : State := aboutOver below0
def p0 : Program := .bare "" "" ""
def e0 : Env := launch0.env 0 0 0
theorem w_frames : about1.frames = Frame.invoking theMethod args0 :: below0 := rfl
set_option maxRecDepth 65536 in
theorem w_args : argsFit about1.vm theMethod args0 = true := by decide +kernel
set_option maxRecDepth 65536 in
theorem w_heap : heapFits about1 = true := by decide +kernel
set_option maxRecDepth 65536 in
theorem w_runnable : about1.curStatus? = some .runnable := by decide +kernel
set_option maxRecDepth 65536 in
theorem w_alone : about1.alone = true := by decide +kernel
set_option maxRecDepth 65536 in
theorem w_named : about1.methodNamed? x = some theMethod := by decide +kernel
set_option maxRecDepth 65536 in
theorem w_hears : about1.hears theMethod below0 = true := by decide +kernel
set_option maxRecDepth 65536 in
theorem w_ripe : about1.ripe theMethod args0 below0 = true := by decide +kernel
theorem w_running : about1.status = .running := rfl
set_option maxRecDepth 65536 in
theorem w_room : about1.hasRoom e0.platform room_1 = true :=
  launch0.hasRoom_least _ room_1 (by decide +kernel) (by decide +kernel) (by decide +kernel) (by decide +kernel) (by decide +kernel) (by decide +kernel)
theorem allAtoms_all (ts : List Jvm.Cond) (a : Array Jvm.Value) (st : Jvm.State) : (allAtoms ts).before a st = ts.all (fun c => c.before a st) := by
  induction ts with
  | nil => rfl
  | cons c t ih =>
    show (Jvm.Cond.and c (allAtoms t)).before a st = _
    rw [Jvm.Cond.before_and, ih, List.all_cons]
def words1 : List Jvm.Cond := Jvm.Cond.code x code maxLocals ret :: tables_1
/-- a 'code' word, met by the world's own term for the bytes: nothing is compared byte by byte -/
theorem code_word {y : MethodName} {bytes : ByteArray} {mx : Nat} {rt : Option FieldType} {a : Array Value} {s : State} {m : MethodId} {meth : Method} {c : Code} (h1 : s.methodNamed? y = some m) (h2 : s.vm.method? m = some meth) (h3 : meth.code = some c) (h4 : c.code = bytes)
    (h5 : (c.maxLocals == mx && c.exceptionTable.isEmpty && decide (c.maxStack ≤ mostOperands) && decide (meth.sig.returnType = rt) && !meth.locks && decide (parseMethodDescriptor y.desc = some meth.sig)) = true) : (Jvm.Cond.code y bytes mx rt).before a s = true := by
  simp only [Bool.and_eq_true, beq_iff_eq, Bool.not_eq_true', decide_eq_true_eq] at h5
  obtain ⟨⟨⟨⟨⟨g1, g2⟩, g3⟩, g4⟩, g5⟩, g6⟩ := h5
  simp [Cond.before, Cond.holds, Cond.value, h1, h2, h3, h4, g1, g2, g3, g4, g5, g6]
def isCode : Jvm.Cond → Bool
  | .code _ _ _ _ => true
  | _ => false
theorem all_split {L : List Jvm.Cond} {P : Jvm.Cond → Bool} (h1 : L.all (fun c => isCode c || P c) = true) (h2 : ∀ c ∈ L.filter isCode, P c = true) : L.all P = true := by
  refine List.all_eq_true.mpr fun c hc => ?_
  have h := List.all_eq_true.mp h1 c hc
  rcases Bool.eq_false_or_eq_true (isCode c) with hi | hi
  · exact h2 c (List.mem_filter.mpr ⟨hc, hi⟩)
  · simpa [hi] using h
set_option maxRecDepth 65536 in
theorem w_c0 : (Jvm.Cond.code x code maxLocals ret).before args0 about1 = true := code_word (m := ⟨1, 1⟩) (meth := k1m1) (c := k1c1) (by decide +kernel) rfl rfl rfl (by decide +kernel)
set_option maxRecDepth 65536 in
theorem w_c1 : (Jvm.Cond.code ({ cls := "com/example/lapidary/lapidary/rules/gem/Square", name := "<init>", desc := "(II)V" } : Jvm.MethodName) prog_20_method_1_code (3 : Nat) (Option.none : Option Jvm.ClassFile.FieldType)).before args0 about1 = true := code_word (m := ⟨3, 0⟩) (meth := k3m0) (c := k3c0) (by decide +kernel) rfl rfl rfl (by decide +kernel)
set_option maxRecDepth 65536 in
theorem w_c2 : (Jvm.Cond.code ({ cls := "java/lang/Record", name := "<init>", desc := "()V" } : Jvm.MethodName) jdk_30_method_1_code (1 : Nat) (Option.none : Option Jvm.ClassFile.FieldType)).before args0 about1 = true := code_word (m := ⟨2, 0⟩) (meth := k2m0) (c := k2c0) (by decide +kernel) rfl rfl rfl (by decide +kernel)
set_option maxRecDepth 65536 in
theorem w_c3 : (Jvm.Cond.code ({ cls := "java/lang/Object", name := "<init>", desc := "()V" } : Jvm.MethodName) object_method_1_code (1 : Nat) (Option.none : Option Jvm.ClassFile.FieldType)).before args0 about1 = true := code_word (m := ⟨0, 0⟩) (meth := k0m0) (c := k0c0) (by decide +kernel) rfl rfl rfl (by decide +kernel)
set_option maxRecDepth 65536 in
theorem w_c4 : (Jvm.Cond.code ({ cls := "com/example/lapidary/lapidary/rules/gem/Square", name := "index", desc := "()I" } : Jvm.MethodName) prog_20_method_4_code (1 : Nat) (Option.some Jvm.ClassFile.FieldType.int)).before args0 about1 = true := code_word (m := ⟨3, 1⟩) (meth := k3m1) (c := k3c1) (by decide +kernel) rfl rfl rfl (by decide +kernel)
def codes1 : List Jvm.Cond := [Jvm.Cond.code x code maxLocals ret, Jvm.Cond.code ({ cls := "com/example/lapidary/lapidary/rules/gem/Square", name := "<init>", desc := "(II)V" } : Jvm.MethodName) prog_20_method_1_code (3 : Nat) (Option.none : Option Jvm.ClassFile.FieldType), Jvm.Cond.code ({ cls := "java/lang/Record", name := "<init>", desc := "()V" } : Jvm.MethodName) jdk_30_method_1_code (1 : Nat) (Option.none : Option Jvm.ClassFile.FieldType), Jvm.Cond.code ({ cls := "java/lang/Object", name := "<init>", desc := "()V" } : Jvm.MethodName) object_method_1_code (1 : Nat) (Option.none : Option Jvm.ClassFile.FieldType), Jvm.Cond.code ({ cls := "com/example/lapidary/lapidary/rules/gem/Square", name := "index", desc := "()I" } : Jvm.MethodName) prog_20_method_4_code (1 : Nat) (Option.some Jvm.ClassFile.FieldType.int)]
set_option maxRecDepth 65536 in
theorem codes_eq : words1.filter isCode = codes1 := rfl
theorem w_codes : ∀ c ∈ words1.filter isCode, c.before args0 about1 = true := by
  rw [codes_eq]
  intro c hc
  simp only [codes1, List.mem_cons, List.not_mem_nil, or_false] at hc
  rcases hc with rfl | rfl | rfl | rfl | rfl
  · exact w_c0
  · exact w_c1
  · exact w_c2
  · exact w_c3
  · exact w_c4
set_option maxRecDepth 65536 in
theorem w_t1 : words1.all (fun c => isCode c || c.before args0 about1) = true := by decide +kernel
theorem w_tables : (allAtoms (Jvm.Cond.code x code maxLocals ret :: tables_1)).before args0 about1 = true := by
  rw [allAtoms_all]
  show words1.all (fun c => c.before args0 about1) = true
  refine all_split ?_ w_codes
  rw [w_t1]
set_option maxRecDepth 65536 in
theorem w_case : (Jvm.Cond.and given_1 narrow_1).before args0 about1 = true := by decide +kernel
theorem w_applies : (headSpec (Jvm.Cond.code x code maxLocals ret :: tables_1) room_1).applies x e0.platform about1 = true :=
  (Spec.applies_iff w_frames).mpr ⟨w_running, w_runnable, w_alone, w_named, w_hears, w_ripe, w_room, w_tables⟩
theorem atStart : AtStart classFile x code maxLocals ret World_1 tables_1 room_1 Calls_1 rest_1 Pre_1 launch0 p0 e0 about1 theMethod args0 below0 :=
  ⟨lists_1, trivial, launch0.admits_env _ _ _, launch0.least_env, fairChoices_fair.cas, fairChoices_fair.clock, w_frames, w_args, w_heap, w_applies, trivial, trivial, w_case⟩
end start1
theorem witness_1 : WitnessClaimed_1 := ⟨start1.p0, start1.e0, start1.about1, start1.theMethod, start1.args0, start1.below0, start1.atStart⟩
end Jvm.Pilot.@@N@@
