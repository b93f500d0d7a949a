import JvmDerived
import JvmDerived.Pilot.@@N@@Statement
import JvmDerived.Pilot.@@N@@Code
set_option linter.unusedVariables false
set_option linter.unusedSimpArgs false
namespace Jvm.Own
open Sem ClassFile Op Lib Jvm.Stand Jvm.Free Jvm.LawKit Jvm.RoadKit
/-- from here the run goes on to a return that the contract allows -/
def Wk (p : Program) (e : Env) (below : List Frame) (F : Outcome → State → Prop) (T : State) (g : JFrame) : Prop :=
  ∃ s₂ o, Steps p.tables e below (T.setTop g) s₂ ∧ s₂.status = .running ∧ Ended s₂ below o ∧ F o s₂
abbrev FN (s : State) (Q : Option Value → Heap → List Loc → Prop) (kc ks : Nat) : Outcome → State → Prop := fun o s₂ => ∃ v L, o = .returned v ∧ Q v s₂.heap L ∧ FrameEnd s o s₂ L kc ks
section Walk
variable {p : Program} {l : Launch} {e : Env} {R : Room} {s : State} {m : MethodId} {args : Array Value} {below : List Frame} {meth : Method} {c : Code} {T : State} {locs : List Loc} {cells slots : Nat} {Q : Option Value → Heap → List Loc → Prop} {Fe : Outcome → State → Prop} {kc ks pc : Nat} {Ls : Array Slot} {S : List Value} {Z : State} {a0 : Array Value} {h : Heap}
theorem Wk.step {T' : State} {g g' : JFrame} (h : Wk p e below Fe T' g') (st : ∀ t, Steps p.tables e below (T'.setTop g') t → Steps p.tables e below (T.setTop g) t) : Wk p e below Fe T g := by
  obtain ⟨s₂, o, h1, h2⟩ := h
  exact ⟨s₂, o, st _ h1, h2⟩
theorem Wk.come {T' : State} {g g' : JFrame} (h : Wk p e below Fe T' g') (st : Steps p.tables e below (T.setTop g) (T'.setTop g')) : Wk p e below Fe T g := h.step fun _ k => st.trans k
theorem w_iload (X : Stand p l e R s m args below meth c T locs cells slots) (hx : p.tables.exec = Jvm.exec) {k : Nat} (v : Int32) (hd : decode c.code pc = .ok (.iload k, 2)) (pc' : Nat) (hp : pc + 2 = pc') (hl : Ls[k]? = some (.val (.int v))) (h : Wk p e below Fe T (mkF m pc' Ls (.int v :: S))) : Wk p e below Fe T (mkF m pc Ls S) := by
  subst hp; exact h.step fun _ k => XS.iload X.here hx rfl hd hl k
theorem w_lload (X : Stand p l e R s m args below meth c T locs cells slots) (hx : p.tables.exec = Jvm.exec) {k : Nat} (v : Int64) (hd : decode c.code pc = .ok (.lload k, 2)) (pc' : Nat) (hp : pc + 2 = pc') (hl : Ls[k]? = some (.val (.long v))) (h : Wk p e below Fe T (mkF m pc' Ls (.long v :: S))) : Wk p e below Fe T (mkF m pc Ls S) := by
  subst hp; exact h.step fun _ k => XS.lload X.here hx rfl hd hl k
theorem w_lloadN (X : Stand p l e R s m args below meth c T locs cells slots) (hx : p.tables.exec = Jvm.exec) {k : Fin 4} (v : Int64) (hd : decode c.code pc = .ok (.lload_n k, 1)) (pc' : Nat) (hp : pc + 1 = pc') (hl : Ls[k.val]? = some (.val (.long v))) (h : Wk p e below Fe T (mkF m pc' Ls (.long v :: S))) : Wk p e below Fe T (mkF m pc Ls S) := by
  subst hp; exact h.step fun _ k => XS.lloadN X.here hx rfl hd hl k
theorem w_aloadN (X : Stand p l e R s m args below meth c T locs cells slots) (hx : p.tables.exec = Jvm.exec) {k : Fin 4} (v : Value) (hd : decode c.code pc = .ok (.aload_n k, 1)) (pc' : Nat) (hp : pc + 1 = pc') (hl : Ls[k.val]? = some (.val v)) (hv : v.isRef = true) (h : Wk p e below Fe T (mkF m pc' Ls (v :: S))) : Wk p e below Fe T (mkF m pc Ls S) := by
  subst hp; exact h.step fun _ k => XS.aloadN X.here hx rfl hd hl hv k
theorem w_istore (X : Stand p l e R s m args below meth c T locs cells slots) (hx : p.tables.exec = Jvm.exec) {k : Nat} {x : Int32} (hd : decode c.code pc = .ok (.istore k, 2)) (pc' : Nat) (hp : pc + 2 = pc') (l' : Array Slot) (hl : storeLocals Ls k (.int x) = some l') (h : Wk p e below Fe T (mkF m pc' l' S)) : Wk p e below Fe T (mkF m pc Ls (.int x :: S)) := by
  subst hp; exact h.step fun _ k => XS.istore X.here hx rfl hd rfl hl k
theorem w_lstore (X : Stand p l e R s m args below meth c T locs cells slots) (hx : p.tables.exec = Jvm.exec) {k : Nat} {x : Int64} (hd : decode c.code pc = .ok (.lstore k, 2)) (pc' : Nat) (hp : pc + 2 = pc') (l' : Array Slot) (hl : storeLocals Ls k (.long x) = some l') (h : Wk p e below Fe T (mkF m pc' l' S)) : Wk p e below Fe T (mkF m pc Ls (.long x :: S)) := by
  subst hp; exact h.step fun _ k => XS.lstore X.here hx rfl hd rfl hl k
theorem w_lstoreN (X : Stand p l e R s m args below meth c T locs cells slots) (hx : p.tables.exec = Jvm.exec) {k : Fin 4} {x : Int64} (hd : decode c.code pc = .ok (.lstore_n k, 1)) (pc' : Nat) (hp : pc + 1 = pc') (l' : Array Slot) (hl : storeLocals Ls k.val (.long x) = some l') (h : Wk p e below Fe T (mkF m pc' l' S)) : Wk p e below Fe T (mkF m pc Ls (.long x :: S)) := by
  subst hp; exact h.step fun _ k => XS.lstoreN X.here hx rfl hd rfl hl k
theorem w_astoreN (X : Stand p l e R s m args below meth c T locs cells slots) (hx : p.tables.exec = Jvm.exec) {k : Fin 4} {x : Value} (hd : decode c.code pc = .ok (.astore_n k, 1)) (pc' : Nat) (hp : pc + 1 = pc') (hv : x.isRef = true) (l' : Array Slot) (hl : storeLocals Ls k.val x = some l') (h : Wk p e below Fe T (mkF m pc' l' S)) : Wk p e below Fe T (mkF m pc Ls (x :: S)) := by
  subst hp; exact h.step fun _ k => XS.astoreN X.here hx rfl hd rfl hv hl k
theorem w_iconst (X : Stand p l e R s m args below meth c T locs cells slots) (hx : p.tables.exec = Jvm.exec) {i : Int} (hd : decode c.code pc = .ok (.iconst i, 1)) (pc' : Nat) (hp : pc + 1 = pc') (z : Int32) (hz : Int32.ofInt i = z) (h : Wk p e below Fe T (mkF m pc' Ls (.int z :: S))) : Wk p e below Fe T (mkF m pc Ls S) := by
  subst hp hz; exact h.step fun _ k => XS.iconst X.here hx rfl hd k
theorem w_bipush (X : Stand p l e R s m args below meth c T locs cells slots) (hx : p.tables.exec = Jvm.exec) {i : Int} (hd : decode c.code pc = .ok (.bipush i, 2)) (pc' : Nat) (hp : pc + 2 = pc') (z : Int32) (hz : (Int8.ofInt i).toInt32 = z) (h : Wk p e below Fe T (mkF m pc' Ls (.int z :: S))) : Wk p e below Fe T (mkF m pc Ls S) := by
  subst hp hz; exact h.step fun _ k => XS.bipush X.here hx rfl hd k
theorem w_lconst (X : Stand p l e R s m args below meth c T locs cells slots) (hx : p.tables.exec = Jvm.exec) {k : Fin 2} (hd : decode c.code pc = .ok (.lconst k, 1)) (pc' : Nat) (hp : pc + 1 = pc') (z : Int64) (hz : Int64.ofNat k = z) (h : Wk p e below Fe T (mkF m pc' Ls (.long z :: S))) : Wk p e below Fe T (mkF m pc Ls S) := by
  subst hp hz; exact h.step fun _ k => XS.lconst X.here hx rfl hd k
theorem w_ldc2 (X : Stand p l e R s m args below meth c T locs cells slots) (hx : p.tables.exec = Jvm.exec) (hZ : Z.Warmed39 s.vm) {own : String} {index : Nat} {v : Int64} (hown : s.vm.findClass own = some m.cls) (w : (Cond.constantLong own index v).before a0 Z = true) (hd : decode c.code pc = .ok (.ldc2_w index, 3)) (pc' : Nat) (hp : pc + 3 = pc') (h : Wk p e below Fe T (mkF m pc' Ls (.long v :: S))) : Wk p e below Fe T (mkF m pc Ls S) := by
  subst hp; exact h.step fun _ k => X.ldc2Long hx hown (mvT hZ w) (g := mkF m pc Ls S) rfl hd _ k
theorem w_ladd (X : Stand p l e R s m args below meth c T locs cells slots) (hx : p.tables.exec = Jvm.exec) {x y : Int64} (hd : decode c.code pc = .ok (.ladd, 1)) (pc' : Nat) (hp : pc + 1 = pc') {z : Int64} (hz : z = x + y) (h : Wk p e below Fe T (mkF m pc' Ls (.long z :: S))) : Wk p e below Fe T (mkF m pc Ls (.long y :: .long x :: S)) := by
  subst hp hz; exact h.step fun _ k => XS.ladd X.here hx rfl hd rfl k
theorem w_lsub (X : Stand p l e R s m args below meth c T locs cells slots) (hx : p.tables.exec = Jvm.exec) {x y : Int64} (hd : decode c.code pc = .ok (.lsub, 1)) (pc' : Nat) (hp : pc + 1 = pc') {z : Int64} (hz : z = x - y) (h : Wk p e below Fe T (mkF m pc' Ls (.long z :: S))) : Wk p e below Fe T (mkF m pc Ls (.long y :: .long x :: S)) := by
  subst hp hz; exact h.step fun _ k => XS.lsub X.here hx rfl hd rfl k
theorem w_lmul (X : Stand p l e R s m args below meth c T locs cells slots) (hx : p.tables.exec = Jvm.exec) {x y : Int64} (hd : decode c.code pc = .ok (.lmul, 1)) (pc' : Nat) (hp : pc + 1 = pc') {z : Int64} (hz : z = x * y) (h : Wk p e below Fe T (mkF m pc' Ls (.long z :: S))) : Wk p e below Fe T (mkF m pc Ls (.long y :: .long x :: S)) := by
  subst hp hz; exact h.step fun _ k => XS.lmul X.here hx rfl hd rfl k
theorem w_lxor (X : Stand p l e R s m args below meth c T locs cells slots) (hx : p.tables.exec = Jvm.exec) {x y : Int64} (hd : decode c.code pc = .ok (.lxor, 1)) (pc' : Nat) (hp : pc + 1 = pc') {z : Int64} (hz : z = x ^^^ y) (h : Wk p e below Fe T (mkF m pc' Ls (.long z :: S))) : Wk p e below Fe T (mkF m pc Ls (.long y :: .long x :: S)) := by
  subst hp hz; exact h.step fun _ k => XS.lxor X.here hx rfl hd rfl k
theorem w_lushr (X : Stand p l e R s m args below meth c T locs cells slots) (hx : p.tables.exec = Jvm.exec) {x : Int64} {y : Int32} (hd : decode c.code pc = .ok (.lushr, 1)) (pc' : Nat) (hp : pc + 1 = pc') {z : Int64} (hz : z = (x.toUInt64 >>> (y &&& 0x3f).toInt64.toUInt64).toInt64) (h : Wk p e below Fe T (mkF m pc' Ls (.long z :: S))) : Wk p e below Fe T (mkF m pc Ls (.int y :: .long x :: S)) := by
  subst hp hz; exact h.step fun _ k => XS.lushr X.here hx rfl hd rfl k
theorem w_lcmp (X : Stand p l e R s m args below meth c T locs cells slots) (hx : p.tables.exec = Jvm.exec) {x y : Int64} (hd : decode c.code pc = .ok (.lcmp, 1)) (pc' : Nat) (hp : pc + 1 = pc') {z : Int32} (hz : z = lcmpW x y) (h : Wk p e below Fe T (mkF m pc' Ls (.int z :: S))) : Wk p e below Fe T (mkF m pc Ls (.long y :: .long x :: S)) := by
  subst hp hz; exact h.step fun _ k => XS.lcmp X.here hx rfl hd rfl k
theorem w_dup (X : Stand p l e R s m args below meth c T locs cells slots) (hx : p.tables.exec = Jvm.exec) {x : Value} (hd : decode c.code pc = .ok (.dup, 1)) (pc' : Nat) (hp : pc + 1 = pc') (hc : x.category = 1) (h : Wk p e below Fe T (mkF m pc' Ls (x :: x :: S))) : Wk p e below Fe T (mkF m pc Ls (x :: S)) := by
  subst hp; exact h.step fun _ k => XS.dup X.here hx rfl hd rfl hc k
theorem w_goto (X : Stand p l e R s m args below meth c T locs cells slots) (hx : p.tables.exec = Jvm.exec) {o : Int} (hd : decode c.code pc = .ok (.goto o, 3)) (pc' : Nat) (h : Wk p e below Fe T (mkF m pc' Ls S)) (ho : 0 ≤ (pc : Int) + o := by decide) (hp : ((pc : Int) + o).toNat = pc' := by decide) : Wk p e below Fe T (mkF m pc Ls S) := by
  exact h.step fun _ k => XS.goto X.here hx rfl rfl hd ho hp k
theorem holds_eq {x y : Int32} {A B : Int} (ha : x.toInt = A) (hb : y.toInt = B) : ((A = B) → if_icmp.holds .eq x y = true) ∧ ((¬ A = B) → if_icmp.holds .eq x y = false) := by
  subst ha hb
  constructor
  · intro q
    first
    | exact (tlt (x := x) (y := y) (Int32.lt_iff_toInt_lt.mpr (by omega))).1
    | exact (flt (x := x) (y := y) (fun r => by have := Int32.lt_iff_toInt_lt.mp r; omega)).2.1
    | exact (tlt (x := y) (y := x) (Int32.lt_iff_toInt_lt.mpr (by omega))).2.2.1
    | exact (flt (x := y) (y := x) (fun r => by have := Int32.lt_iff_toInt_lt.mp r; omega)).2.2.2
    | exact (teq (x := x) (y := y) (Int32.toInt_inj.mp (by omega))).1
    | exact (feq (x := x) (y := y) (fun r => q (by rw [r]))).2
  · intro q
    first
    | exact (flt (x := x) (y := y) (fun r => by have := Int32.lt_iff_toInt_lt.mp r; omega)).1
    | exact (tlt (x := x) (y := y) (Int32.lt_iff_toInt_lt.mpr (by omega))).2.1
    | exact (flt (x := y) (y := x) (fun r => by have := Int32.lt_iff_toInt_lt.mp r; omega)).2.2.1
    | exact (tlt (x := y) (y := x) (Int32.lt_iff_toInt_lt.mpr (by omega))).2.2.2
    | exact (feq (x := x) (y := y) (fun r => q (by rw [r]))).1
    | exact (teq (x := x) (y := y) (Int32.toInt_inj.mp (by omega))).2
theorem w_if_eq (X : Stand p l e R s m args below meth c T locs cells slots) (hx : p.tables.exec = Jvm.exec) {x : Int32} {o : Int} (A : Int) (ha : x.toInt = A) (hd : decode c.code pc = .ok (.ifCond .eq o, 3)) (pt pn : Nat) (h1 : A = 0 → Wk p e below Fe T (mkF m pt Ls S)) (h2 : ¬ A = 0 → Wk p e below Fe T (mkF m pn Ls S)) (ho : 0 ≤ (pc : Int) + o := by decide) (hp : ((pc : Int) + o).toNat = pt := by decide) (hn : pc + 3 = pn := by rfl) : Wk p e below Fe T (mkF m pc Ls (.int x :: S)) := by
  subst hn
  have hb : (0 : Int32).toInt = 0 := rfl
  by_cases q : A = 0
  · exact (h1 q).step fun _ k => XS.ifYes X.here hx rfl rfl hd rfl ((if0 _ _).trans ((holds_eq ha hb).1 q)) ho hp k
  · have q' : ¬ A = 0 := by omega
    exact (h2 q').step fun _ k => XS.ifNo X.here hx rfl hd rfl ((if0 _ _).trans ((holds_eq ha hb).2 q')) k
theorem holds_ne {x y : Int32} {A B : Int} (ha : x.toInt = A) (hb : y.toInt = B) : ((¬ A = B) → if_icmp.holds .ne x y = true) ∧ ((A = B) → if_icmp.holds .ne x y = false) := by
  subst ha hb
  constructor
  · intro q
    first
    | exact (tlt (x := x) (y := y) (Int32.lt_iff_toInt_lt.mpr (by omega))).1
    | exact (flt (x := x) (y := y) (fun r => by have := Int32.lt_iff_toInt_lt.mp r; omega)).2.1
    | exact (tlt (x := y) (y := x) (Int32.lt_iff_toInt_lt.mpr (by omega))).2.2.1
    | exact (flt (x := y) (y := x) (fun r => by have := Int32.lt_iff_toInt_lt.mp r; omega)).2.2.2
    | exact (teq (x := x) (y := y) (Int32.toInt_inj.mp (by omega))).1
    | exact (feq (x := x) (y := y) (fun r => q (by rw [r]))).2
  · intro q
    first
    | exact (flt (x := x) (y := y) (fun r => by have := Int32.lt_iff_toInt_lt.mp r; omega)).1
    | exact (tlt (x := x) (y := y) (Int32.lt_iff_toInt_lt.mpr (by omega))).2.1
    | exact (flt (x := y) (y := x) (fun r => by have := Int32.lt_iff_toInt_lt.mp r; omega)).2.2.1
    | exact (tlt (x := y) (y := x) (Int32.lt_iff_toInt_lt.mpr (by omega))).2.2.2
    | exact (feq (x := x) (y := y) (fun r => q (by rw [r]))).1
    | exact (teq (x := x) (y := y) (Int32.toInt_inj.mp (by omega))).2
theorem w_if_ne (X : Stand p l e R s m args below meth c T locs cells slots) (hx : p.tables.exec = Jvm.exec) {x : Int32} {o : Int} (A : Int) (ha : x.toInt = A) (hd : decode c.code pc = .ok (.ifCond .ne o, 3)) (pt pn : Nat) (h1 : ¬ A = 0 → Wk p e below Fe T (mkF m pt Ls S)) (h2 : A = 0 → Wk p e below Fe T (mkF m pn Ls S)) (ho : 0 ≤ (pc : Int) + o := by decide) (hp : ((pc : Int) + o).toNat = pt := by decide) (hn : pc + 3 = pn := by rfl) : Wk p e below Fe T (mkF m pc Ls (.int x :: S)) := by
  subst hn
  have hb : (0 : Int32).toInt = 0 := rfl
  by_cases q : ¬ A = 0
  · exact (h1 q).step fun _ k => XS.ifYes X.here hx rfl rfl hd rfl ((if0 _ _).trans ((holds_ne ha hb).1 q)) ho hp k
  · have q' : A = 0 := by omega
    exact (h2 q').step fun _ k => XS.ifNo X.here hx rfl hd rfl ((if0 _ _).trans ((holds_ne ha hb).2 q')) k
theorem w_retN (X : Stand p l e R s m args below meth c T locs cells slots) (hx : p.tables.exec = Jvm.exec) (hlocks : meth.locks = false) {t : FieldType} {z : Int32} (hret : meth.sig.returnType = some t) (ht : t = .boolean ∨ t = .byte ∨ t = .char ∨ t = .short) (hd : decode c.code pc = .ok (.ireturn, 1)) (hc : cells ≤ kc) (hs : slots ≤ ks) (hQ : Q (some (.int (nar t z))) T.heap locs) : Wk p e below (FN s Q kc ks) T (mkF m pc Ls (.int z :: S)) := by
  obtain ⟨fs, hr, hrun, hended, hW, hsame⟩ := X.leave (v := some (.int (nar t z))) (fun h => by rw [hret] at h; cases h) hlocks
  exact ⟨_, _, retN X hx hret ht hd hr, hrun, hended, _, _, rfl, hQ, ⟨_, rfl⟩, hW, hsame.mono hc hs⟩
theorem w_retO (X : Stand p l e R s m args below meth c T locs cells slots) (hx : p.tables.exec = Jvm.exec) (hlocks : meth.locks = false) {t : FieldType} {w : Value} {i : Instr} (hret : meth.sig.returnType = some t) (hn : narrow t w = w)
    (hi : (i = .ireturn ∧ (t = .int ∨ t = .boolean ∨ t = .byte ∨ t = .char ∨ t = .short) ∧ ∃ z, w = .int z) ∨ (i = .lreturn ∧ t = .long ∧ ∃ z, w = .long z) ∨ (i = .dreturn ∧ t = .double ∧ ∃ z, w = .double z) ∨ (i = .freturn ∧ t = .float ∧ ∃ z, w = .float z) ∨ (i = .areturn ∧ t.isReference = true ∧ w.isRef = true))
    (hd : decode c.code pc = .ok (i, 1)) (hc : cells ≤ kc) (hs : slots ≤ ks) (hQ : Q (some w) T.heap locs) : Wk p e below (FN s Q kc ks) T (mkF m pc Ls (w :: S)) := by
  obtain ⟨fs, hr, hrun, hended, hW, hsame⟩ := X.leave (v := some w) (fun h => by rw [hret] at h; cases h) hlocks
  exact ⟨_, _, retOut X hx hret hn hi hd hr, hrun, hended, _, _, rfl, hQ, ⟨_, rfl⟩, hW, hsame.mono hc hs⟩
theorem w_retL (X : Stand p l e R s m args below meth c T locs cells slots) (hx : p.tables.exec = Jvm.exec) (hlocks : meth.locks = false) {z : Int64} (hret : meth.sig.returnType = some .long) (hd : decode c.code pc = .ok (.lreturn, 1)) (hc : cells ≤ kc) (hs : slots ≤ ks) (hQ : Q (some (.long z)) T.heap locs) : Wk p e below (FN s Q kc ks) T (mkF m pc Ls (.long z :: S)) :=
  w_retO X hx hlocks hret rfl (Or.inr (Or.inl ⟨rfl, rfl, _, rfl⟩)) hd hc hs hQ
theorem w_ret0 (X : Stand p l e R s m args below meth c T locs cells slots) (hx : p.tables.exec = Jvm.exec) (hlocks : meth.locks = false) (hret : meth.sig.returnType = none) (hd : decode c.code pc = .ok (.return_, 1)) (hc : cells ≤ kc) (hs : slots ≤ ks) (hQ : Q none T.heap locs) : Wk p e below (FN s Q kc ks) T (mkF m pc Ls []) := by
  obtain ⟨fs, hr, hrun, hended, hW, hsame⟩ := X.leave (v := none) (fun _ => rfl) hlocks
  exact ⟨_, _, X.returnOut hx hret hd hr, hrun, hended, _, _, rfl, hQ, ⟨_, rfl⟩, hW, hsame.mono hc hs⟩
theorem w_callS (X : Stand p l e R s m args below meth c T locs cells slots) (hx : p.tables.exec = Jvm.exec) (hZ : Z.Warmed39 s.vm) {own : String} {index : Nat} {y : MethodName} {bytes : ByteArray} {maxL : Nat} {ret : Option FieldType} {rm : Room} {as' : Array Value} {Qc : Option Value → Heap → List Loc → Prop} (hown : s.vm.findClass own = some m.cls) (eT : T.heap = h)
    (hM : MetFree l y (head1 [Cond.code y bytes maxL ret] rm) (fun a U => a = as' ∧ Z.Warmed39 U.vm ∧ U.heap = h) (fun _ _ _ _ _ => True) (fun _ U o U' => ∃ v L, o = .returned v ∧ Qc v U'.heap L ∧ FrameEnd U o U' L rm.cells rm.slots))
    (w1 : (Cond.methodLink own index y).before a0 Z = true) (w2 : (Cond.static y).before a0 Z = true) (w3 : (Cond.initialized y.cls).before a0 Z = true) (w4 : (Cond.code y bytes maxL ret).before a0 Z = true) (hy : y.cls ≠ "java/lang/invoke/MethodHandle" ∧ y.cls ≠ "java/lang/invoke/VarHandle")
    (hsize : Ls.size = c.maxLocals) (argsL rest : List Value) (hlen : ∀ sig, parseMethodDescriptor y.desc = some sig → argsL.length = sig.parameters.length) (hst : S = argsL.reverse ++ rest) (has : argsL.toArray = as')
    (hf : rm.frames + 1 ≤ R.frames) (W : Nat) (hW : (rest.map fun v => v.category).sum = W) (hl : W + (maxL + 11) + rm.locals ≤ R.locals) (hc : cells + rm.cells ≤ R.cells) (hs : slots + rm.slots ≤ R.slots) (hd : decode c.code pc = .ok (.invokestatic index, 3)) (pc' : Nat) (hp : pc + 3 = pc')
    (k : ∀ (v : Option Value) (T' : State) (L : List Loc), Stand p l e R s m args below meth c T' (locs ++ L) (cells + rm.cells) (slots + rm.slots) → Qc v T'.heap L → Wk p e below Fe T' (mkF m pc' Ls (v.toList ++ rest))) : Wk p e below Fe T (mkF m pc Ls S) := by
  subst hp hst has hW
  obtain ⟨v, _, ⟨T', L', k', n'⟩, -, X', ⟨Lc, q1, q2, q3, q4⟩, st⟩ := Jvm.LawKit.callS X hx hown (mvT hZ w1) (mvT hZ w2) (mvT hZ w3) (mvT hZ w4) hy (backOf hM hZ w4 w3 hf hl) (g := mkF m pc Ls (argsL.reverse ++ rest)) rfl hsize hlen rfl (by show 2 * 0 + _ ≤ _; rw [Nat.mul_zero, Nat.zero_add]; exact Nat.le_refl _) hd (fun _ _ => ⟨rfl, eT, hc, hs⟩)
  dsimp only [Pt.U, Pt.locs, Pt.cells, Pt.slots] at X' q2 q3 q4 st q1
  subst q2 q3 q4
  exact (k v T' Lc X' q1).step st
theorem w_init (X : Stand p l e R s m args below meth c T locs cells slots) (hx : p.tables.exec = Jvm.exec) (hZ : Z.Warmed39 s.vm) {own : String} {index : Nat} {y : MethodName} {bytes : ByteArray} {maxL : Nat} {rm : Room} {as' : Array Value} {Qc : Option Value → Heap → List Loc → Prop} (hy1 : y.name = "<init>") (hown : s.vm.findClass own = some m.cls) (eT : T.heap = h)
    (hM : MetFree l y (head1 [Cond.code y bytes maxL none] rm) (fun a U => a = as' ∧ Z.Warmed39 U.vm ∧ U.heap = h) (fun _ _ _ _ _ => True) (fun _ U o U' => ∃ v L, o = .returned v ∧ Qc v U'.heap L ∧ FrameEnd U o U' L rm.cells rm.slots))
    (w1 : (Cond.methodLink own index y).before a0 Z = true) (w2 : (Cond.instanceMethod y).before a0 Z = true) (w3 : (Cond.initialized y.cls).before a0 Z = true) (w4 : (Cond.code y bytes maxL none).before a0 Z = true) (hy : y.cls ≠ "java/lang/invoke/MethodHandle" ∧ y.cls ≠ "java/lang/invoke/VarHandle")
    (hsize : Ls.size = c.maxLocals) (a : Addr) (argsL rest : List Value) (hlen : ∀ sig, parseMethodDescriptor y.desc = some sig → argsL.length = sig.parameters.length) (hst : S = argsL.reverse ++ .ref a :: rest) (has : (Value.ref a :: argsL).toArray = as')
    (hf : rm.frames + 1 ≤ R.frames) (W : Nat) (hW : (rest.map fun v => v.category).sum = W) (hl : W + (maxL + 11) + rm.locals ≤ R.locals) (hc : cells + rm.cells ≤ R.cells) (hs : slots + rm.slots ≤ R.slots) (hd : decode c.code pc = .ok (.invokespecial index, 3)) (pc' : Nat) (hp : pc + 3 = pc')
    (k : ∀ (v : Option Value) (T' : State) (L : List Loc), Stand p l e R s m args below meth c T' (locs ++ L) (cells + rm.cells) (slots + rm.slots) → Qc v T'.heap L → Wk p e below Fe T' (mkF m pc' Ls (v.toList ++ rest))) : Wk p e below Fe T (mkF m pc Ls S) := by
  subst hp hst has hW
  obtain ⟨v, _, ⟨T', L', k', n'⟩, -, X', ⟨Lc, q1, q2, q3, q4⟩, st⟩ := X.specialBack hx hy1 hown (mvT hZ w1) (mvT hZ w2) (mvT hZ w4) hy (backOf hM hZ w4 w3 hf hl) (g := mkF m pc Ls (argsL.reverse ++ .ref a :: rest)) rfl hsize (Steps.refl _) hlen rfl (by show 2 * 0 + _ ≤ _; rw [Nat.mul_zero, Nat.zero_add]; exact Nat.le_refl _) hd (fun _ _ => ⟨rfl, eT, hc, hs⟩)
  dsimp only [Pt.U, Pt.locs, Pt.cells, Pt.slots] at X' q2 q3 q4 st q1
  subst q2 q3 q4
  exact (k v T' Lc X' q1).come st
theorem w_virt (X : Stand p l e R s m args below meth c T locs cells slots) (hx : p.tables.exec = Jvm.exec) (hZ : Z.Warmed39 s.vm) {own : String} {index : Nat} {y : MethodName} {bytes : ByteArray} {maxL : Nat} {ret : Option FieldType} {rm : Room} {as' : Array Value} {Qc : Option Value → Heap → List Loc → Prop} {C : String} {y0 : MethodName} (hown : s.vm.findClass own = some m.cls) (eT : T.heap = h)
    (hM : MetFree l y (head1 [Cond.code y bytes maxL ret] rm) (fun a U => a = as' ∧ Z.Warmed39 U.vm ∧ U.heap = h) (fun _ _ _ _ _ => True) (fun _ U o U' => ∃ v L, o = .returned v ∧ Qc v U'.heap L ∧ FrameEnd U o U' L rm.cells rm.slots))
    (w1 : (Cond.methodLink own index y0).before a0 Z = true) (w2 : (Cond.declares y0).before a0 Z = true) (nf : NotFace s y0) (w5 : (Cond.selects C y0 y).before a0 Z = true) (w6 : (Cond.instanceMethod y).before a0 Z = true) (w3 : (Cond.initialized y.cls).before a0 Z = true) (w4 : (Cond.code y bytes maxL ret).before a0 Z = true) (hy : y0.cls ≠ "java/lang/invoke/MethodHandle" ∧ y0.cls ≠ "java/lang/invoke/VarHandle")
    (a : Addr) (E : Exa Z h a C)
    (hsize : Ls.size = c.maxLocals) (argsL rest : List Value) (hlen : ∀ sig, parseMethodDescriptor y0.desc = some sig → argsL.length = sig.parameters.length) (hst : S = argsL.reverse ++ .ref a :: rest) (has : (Value.ref a :: argsL).toArray = as')
    (hf : rm.frames + 1 ≤ R.frames) (W : Nat) (hW : (rest.map fun v => v.category).sum = W) (hl : W + (maxL + 11) + rm.locals ≤ R.locals) (hc : cells + rm.cells ≤ R.cells) (hs : slots + rm.slots ≤ R.slots) (hd : decode c.code pc = .ok (.invokevirtual index, 3)) (pc' : Nat) (hp : pc + 3 = pc')
    (k : ∀ (v : Option Value) (T' : State) (L : List Loc), Stand p l e R s m args below meth c T' (locs ++ L) (cells + rm.cells) (slots + rm.slots) → Qc v T'.heap L → Wk p e below Fe T' (mkF m pc' Ls (v.toList ++ rest))) : Wk p e below Fe T (mkF m pc Ls S) := by
  subst hp hst has hW
  obtain ⟨cq, kq, qa, qb, qc⟩ := isOf hZ eT E
  obtain ⟨v, _, ⟨T', L', k', n'⟩, -, X', ⟨Lc, q1, q2, q3, q4⟩, st⟩ := X.virtualBack hx hown (mvT hZ w1) (mvT hZ w2) nf (mvT hZ w5) (mvT hZ w6) hy (backOf hM hZ w4 w3 hf hl) qa qc (g := mkF m pc Ls (argsL.reverse ++ .ref a :: rest)) rfl hsize (Steps.refl _) hlen rfl (by show 2 * 0 + _ ≤ _; rw [Nat.mul_zero, Nat.zero_add]; exact Nat.le_refl _) hd (fun _ _ => ⟨rfl, eT, hc, hs⟩)
  dsimp only [Pt.U, Pt.locs, Pt.cells, Pt.slots] at X' q2 q3 q4 st q1
  subst q2 q3 q4
  exact (k v T' Lc X' q1).come st
theorem w_objinit (X : Stand p l e R s m args below meth c T locs cells slots) (hx : p.tables.exec = Jvm.exec) (hZ : Z.Warmed39 s.vm) {own : String} {idx : Nat} (hown : s.vm.findClass own = some m.cls) (eT : T.heap = h) (w1 : (Cond.methodLink own idx Lib.objectInit).before a0 Z = true) (w2 : (Cond.instanceMethod Lib.objectInit).before a0 Z = true) (w3 : (Cond.code Lib.objectInit ⟨#[0xb1]⟩ 1 none).before a0 Z = true)
    (hsize : Ls.size = c.maxLocals) {a : Addr} (hf : 1 ≤ R.frames) (W : Nat) (hW : (S.map fun v => v.category).sum = W) (hl : W + 12 ≤ R.locals) (hd : decode c.code pc = .ok (.invokespecial idx, 3)) (pc' : Nat) (hp : pc + 3 = pc')
    (k : ∀ T' : State, Stand p l e R s m args below meth c T' locs cells slots → T'.heap = h → Wk p e below Fe T' (mkF m pc' Ls S)) : Wk p e below Fe T (mkF m pc Ls (.ref a :: S)) := by
  subst hp hW
  obtain ⟨T', X', e', st⟩ := initO X hx hZ hown w1 w2 w3 eT (g := mkF m pc Ls (.ref a :: S)) rfl hsize rfl hd hf (by show 2 * 0 + _ ≤ _; rw [Nat.mul_zero, Nat.zero_add]; exact Nat.le_refl _) hl
  exact (k T' X' e').step st
theorem w_getF (X : Stand p l e R s m args below meth c T locs cells slots) (hx : p.tables.exec = Jvm.exec) (hZ : Z.Warmed39 s.vm) {own R0 O n d host : String} {index : Nat} (hown : s.vm.findClass own = some m.cls) (eT : T.heap = h) (w : (Cond.fieldLink own index R0 n d).before a0 Z = true ∨ (Cond.fieldLinkNest own index R0 n d host).before a0 Z = true) (via : Via Z R0 O n d)
    {a : Addr} {v : Value} (F : Fld Z h a O n d v) (hd : decode c.code pc = .ok (.getfield index, 3)) (pc' : Nat) (hp : pc + 3 = pc')
    (k : ∀ T' : State, Stand p l e R s m args below meth c T' locs cells slots → T'.heap = h → Wk p e below Fe T' (mkF m pc' Ls (v :: S))) : Wk p e below Fe T (mkF m pc Ls (.ref a :: S)) := by
  subst hp
  obtain ⟨T', X', e', st⟩ := getF X hx hZ hown w via eT F (g := mkF m pc Ls (.ref a :: S)) rfl rfl hd
  exact (k T' X' e').step st
theorem w_putF (X : Stand p l e R s m args below meth c T locs cells slots) (hx : p.tables.exec = Jvm.exec) (hZ : Z.Warmed39 s.vm) {own R0 O n d host C : String} {index kk : Nat} {ty : FieldType} (hown : s.vm.findClass own = some m.cls) (eT : T.heap = h) (w : (Cond.fieldLink own index R0 n d).before a0 Z = true ∨ (Cond.fieldLinkNest own index R0 n d host).before a0 Z = true) (via : Via Z R0 O n d)
    {a : Addr} {v old : Value} (F : Fld Z h a O n d old) (E : Exa Z h a C) (L : (Cond.lays C O n d).before a0 Z = true ∨ ((Cond.laysFinal C O n d).before a0 Z = true ∧ own = O ∧ meth.name = "<init>")) (wi : (Cond.instantiable C kk).before a0 Z = true)
    (hty : parseFieldDescriptor d = some ty) (hn : narrow ty v = v) (hf : fits ty v = true) (hd : decode c.code pc = .ok (.putfield index, 3)) (pc' : Nat) (hp : pc + 3 = pc')
    (k : ∀ (T' : State) (h' : Heap), Stand p l e R s m args below meth c T' (locs ++ [⟨a, Jvm.RoadKit.slotOf Z O n d⟩]) cells slots → T'.heap = h' → Wr h h' a (Jvm.RoadKit.slotOf Z O n d) v → Wk p e below Fe T' (mkF m pc' Ls S)) : Wk p e below Fe T (mkF m pc Ls (v :: .ref a :: S)) := by
  subst hp
  obtain ⟨T', h', X', e', W', st⟩ := putF X hx hZ hown w via eT F E L wi hty hn hf (g := mkF m pc Ls (v :: .ref a :: S)) rfl rfl hd
  exact (k T' h' X' e' W').step st
theorem w_new (X : Stand p l e R s m args below meth c T locs cells slots) (hx : p.tables.exec = Jvm.exec) (hZ : Z.Warmed39 s.vm) {own C : String} {index n : Nat} (hown : s.vm.findClass own = some m.cls) (eT : T.heap = h) (w : (Cond.classLink own index C).before a0 Z = true) (wi : (Cond.instantiable C n).before a0 Z = true) (wz : (Cond.initialized C).before a0 Z = true)
    (hc : cells + 1 ≤ R.cells) (hl : slots + n ≤ R.slots) (hd : decode c.code pc = .ok (.new index, 3)) (pc' : Nat) (hp : pc + 3 = pc')
    (k : ∀ (T' : State) (h' : Heap) (a : Addr), Stand p l e R s m args below meth c T' locs (cells + 1) (slots + n) → T'.heap = h' → a = h.size → Ext h h' → Exa Z h' a C → (∀ {O nm d : String} {ty : FieldType}, Laid Z a0 C O nm d → parseFieldDescriptor d = some ty → Fld Z h' a O nm d (defaultValue ty)) → Wk p e below Fe T' (mkF m pc' Ls (.ref a :: S))) : Wk p e below Fe T (mkF m pc Ls S) := by
  subst hp
  obtain ⟨T', h', X', e', E', A', D', -, st⟩ := newO X hx hZ hown w wi wz eT (g := mkF m pc Ls S) rfl hd hc hl
  exact (k T' h' _ X' e' rfl E' A' D').step st
abbrev CT (l : Launch) (y : MethodName) (bytes : ByteArray) (maxL : Nat) (ret : Option FieldType) (ws : List Cond) (rm : Room) (as' : Array Value) (Z : State) (h0 : Heap) (Q : Option Value → Heap → List Loc → Prop) : Prop :=
  MetFree l y (head1 (Cond.code y bytes maxL ret :: ws) rm) (fun a U => a = as' ∧ Z.Warmed39 U.vm ∧ U.heap = h0) (fun _ _ _ _ _ => True) (fun _ U o U' => ∃ v L, o = .returned v ∧ Q v U'.heap L ∧ FrameEnd U o U' L rm.cells rm.slots)
theorem body_of {y : MethodName} {bytes : ByteArray} {maxL : Nat} {ret : Option FieldType} {ws : List Cond} {rm : Room} {as' : Array Value} {h0 : Heap} (hpl : plainFor y = true)
    (k : ∀ (p : Program) (e : Env) (s : State) (m : MethodId) (below : List Frame) (meth : Method) (c : Code) (s₁ : State), p.tables.exec = Jvm.exec → (∀ {pc : Nat} {r : Except DecodeError (Instr × Nat)}, decode bytes pc = r → decode c.code pc = r) → meth.sig.returnType = ret → meth.locks = false → c.maxLocals = maxL → s.vm.findClass y.cls = some m.cls → meth.name = y.name → Stand p l e rm s m as' below meth c s₁ [] 0 0 → s₁.heap = h0 → Z.Warmed39 s.vm → Wk p e below (FN s Q kc ks) s₁ (entryFrame m as' maxL)) :
    MetFree l y (head1 (Cond.code y bytes maxL ret :: ws) rm) (fun a U => a = as' ∧ Z.Warmed39 U.vm ∧ U.heap = h0) (fun _ _ _ _ _ => True) (fun _ U o U' => ∃ v L, o = .returned v ∧ Q v U'.heap L ∧ FrameEnd U o U' L kc ks) := by
  refine MetFree.of_bodySF hpl hisR ?_
  intro p e s m args below meth c s₁ Bd hml0 hP hK
  obtain ⟨rfl, hZ, hh⟩ := hP
  obtain ⟨s₂, o, h1, h2⟩ := k p e s m below meth c s₁ Bd.exec (fun q => hb Bd.bytes q) Bd.returns Bd.notSynchronized hml0 (findClass_of_methodNamed Bd.named) (name_of_methodNamed Bd.named Bd.method).1 (Stand.of_body Bd) (by rw [← hh, Bd.state]; rfl) hZ
  exact ⟨s₂, o, h1, h2⟩
end Walk
/-! plain facts on Int32 and Int64, in Ints -/
theorem lcmpC (x y : Int64) {A B : Int} (ha : x.toInt = A) (hb : y.toInt = B) : ((lcmpW x y).toInt = -1 ∧ A < B) ∨ ((lcmpW x y).toInt = 0 ∧ A = B) ∨ ((lcmpW x y).toInt = 1 ∧ B < A) := by
  have := c_lcmp x y; subst ha hb; omega
theorem laddM {x y : Int64} {A B : Int} (ha : x.toInt = A) (hb : y.toInt = B) : ((x + y).toInt - (A + B)) % 18446744073709551616 = 0 := by subst ha hb; exact c_ladd x y
theorem lsubM {x y : Int64} {A B : Int} (ha : x.toInt = A) (hb : y.toInt = B) : ((x - y).toInt - (A - B)) % 18446744073709551616 = 0 := by subst ha hb; exact c_lsub x y
end Jvm.Own
namespace Jvm.Pilot.@@N@@
open Jvm Jvm.ClassFile Sem Op Lib Jvm.Free Jvm.Stand Jvm.LawKit Jvm.RoadKit Bundle Jvm.Own Jvm.Pilot.@@N@@.Jvm.D
abbrev cN_0 : String := "com/example/urd/urd/net/SeededRandom"
abbrev cN_1 : String := "com/example/urd/urd/net/SeededRandomNextLongPinLaw"
theorem tw_0 {Z : State} {a0 : Array Value} (hw : ∀ d ∈ tables_1, d.before a0 Z = true) : (Jvm.Cond.classLink "com/example/urd/urd/net/SeededRandomNextLongPinLaw" (19 : Nat) "com/example/urd/urd/net/SeededRandom").before a0 Z = true := hw _ (List.mem_of_getElem? (i := 0) rfl)
theorem tw_1 {Z : State} {a0 : Array Value} (hw : ∀ d ∈ tables_1, d.before a0 Z = true) : (Jvm.Cond.instantiable "com/example/urd/urd/net/SeededRandom" (1 : Nat)).before a0 Z = true := hw _ (List.mem_of_getElem? (i := 1) rfl)
theorem tw_2 {Z : State} {a0 : Array Value} (hw : ∀ d ∈ tables_1, d.before a0 Z = true) : (Jvm.Cond.initialized "com/example/urd/urd/net/SeededRandom").before a0 Z = true := hw _ (List.mem_of_getElem? (i := 2) rfl)
theorem tw_3 {Z : State} {a0 : Array Value} (hw : ∀ d ∈ tables_1, d.before a0 Z = true) : (Jvm.Cond.methodLink "com/example/urd/urd/net/SeededRandomNextLongPinLaw" (21 : Nat) ({ cls := "com/example/urd/urd/net/SeededRandom", name := "<init>", desc := "(J)V" } : Jvm.MethodName)).before a0 Z = true := hw _ (List.mem_of_getElem? (i := 3) rfl)
theorem tw_4 {Z : State} {a0 : Array Value} (hw : ∀ d ∈ tables_1, d.before a0 Z = true) : (Jvm.Cond.instanceMethod ({ cls := "com/example/urd/urd/net/SeededRandom", name := "<init>", desc := "(J)V" } : Jvm.MethodName)).before a0 Z = true := hw _ (List.mem_of_getElem? (i := 4) rfl)
theorem tw_5 {Z : State} {a0 : Array Value} (hw : ∀ d ∈ tables_1, d.before a0 Z = true) : (Jvm.Cond.code ({ cls := "com/example/urd/urd/net/SeededRandom", name := "<init>", desc := "(J)V" } : Jvm.MethodName) prog_44_method_1_code (3 : Nat) (Option.none : Option Jvm.ClassFile.FieldType)).before a0 Z = true := hw _ (List.mem_of_getElem? (i := 5) rfl)
theorem tw_6 {Z : State} {a0 : Array Value} (hw : ∀ d ∈ tables_1, d.before a0 Z = true) : (Jvm.Cond.methodLink "com/example/urd/urd/net/SeededRandom" (1 : Nat) ({ cls := "java/lang/Object", name := "<init>", desc := "()V" } : Jvm.MethodName)).before a0 Z = true := hw _ (List.mem_of_getElem? (i := 6) rfl)
theorem tw_7 {Z : State} {a0 : Array Value} (hw : ∀ d ∈ tables_1, d.before a0 Z = true) : (Jvm.Cond.instanceMethod ({ cls := "java/lang/Object", name := "<init>", desc := "()V" } : Jvm.MethodName)).before a0 Z = true := hw _ (List.mem_of_getElem? (i := 7) rfl)
theorem tw_8 {Z : State} {a0 : Array Value} (hw : ∀ d ∈ tables_1, d.before a0 Z = true) : (Jvm.Cond.code ({ cls := "java/lang/Object", name := "<init>", desc := "()V" } : Jvm.MethodName) object_method_1_code (1 : Nat) (Option.none : Option Jvm.ClassFile.FieldType)).before a0 Z = true := hw _ (List.mem_of_getElem? (i := 8) rfl)
theorem tw_9 {Z : State} {a0 : Array Value} (hw : ∀ d ∈ tables_1, d.before a0 Z = true) : (Jvm.Cond.fieldLink "com/example/urd/urd/net/SeededRandom" (7 : Nat) "com/example/urd/urd/net/SeededRandom" "state" "J").before a0 Z = true := hw _ (List.mem_of_getElem? (i := 9) rfl)
theorem tw_10 {Z : State} {a0 : Array Value} (hw : ∀ d ∈ tables_1, d.before a0 Z = true) : (Jvm.Cond.lays "com/example/urd/urd/net/SeededRandom" "com/example/urd/urd/net/SeededRandom" "state" "J").before a0 Z = true := hw _ (List.mem_of_getElem? (i := 10) rfl)
theorem tw_11 {Z : State} {a0 : Array Value} (hw : ∀ d ∈ tables_1, d.before a0 Z = true) : (Jvm.Cond.methodLink "com/example/urd/urd/net/SeededRandomNextLongPinLaw" (24 : Nat) ({ cls := "com/example/urd/urd/net/SeededRandom", name := "nextLong", desc := "()J" } : Jvm.MethodName)).before a0 Z = true := hw _ (List.mem_of_getElem? (i := 11) rfl)
theorem tw_12 {Z : State} {a0 : Array Value} (hw : ∀ d ∈ tables_1, d.before a0 Z = true) : (Jvm.Cond.declares ({ cls := "com/example/urd/urd/net/SeededRandom", name := "nextLong", desc := "()J" } : Jvm.MethodName)).before a0 Z = true := hw _ (List.mem_of_getElem? (i := 12) rfl)
theorem tw_13 {Z : State} {a0 : Array Value} (hw : ∀ d ∈ tables_1, d.before a0 Z = true) : (Jvm.Cond.instanceMethod ({ cls := "com/example/urd/urd/net/SeededRandom", name := "nextLong", desc := "()J" } : Jvm.MethodName)).before a0 Z = true := hw _ (List.mem_of_getElem? (i := 13) rfl)
theorem tw_14 {Z : State} {a0 : Array Value} (hw : ∀ d ∈ tables_1, d.before a0 Z = true) : (Jvm.Cond.selects "com/example/urd/urd/net/SeededRandom" ({ cls := "com/example/urd/urd/net/SeededRandom", name := "nextLong", desc := "()J" } : Jvm.MethodName) ({ cls := "com/example/urd/urd/net/SeededRandom", name := "nextLong", desc := "()J" } : Jvm.MethodName)).before a0 Z = true := hw _ (List.mem_of_getElem? (i := 14) rfl)
theorem tw_15 {Z : State} {a0 : Array Value} (hw : ∀ d ∈ tables_1, d.before a0 Z = true) : (Jvm.Cond.code ({ cls := "com/example/urd/urd/net/SeededRandom", name := "nextLong", desc := "()J" } : Jvm.MethodName) prog_44_method_2_code (3 : Nat) (Option.some Jvm.ClassFile.FieldType.long)).before a0 Z = true := hw _ (List.mem_of_getElem? (i := 15) rfl)
theorem tw_16 {Z : State} {a0 : Array Value} (hw : ∀ d ∈ tables_1, d.before a0 Z = true) : (Jvm.Cond.constantLong "com/example/urd/urd/net/SeededRandom" (13 : Nat) (-7046029254386353131 : Int64)).before a0 Z = true := hw _ (List.mem_of_getElem? (i := 16) rfl)
theorem tw_17 {Z : State} {a0 : Array Value} (hw : ∀ d ∈ tables_1, d.before a0 Z = true) : (Jvm.Cond.constantLong "com/example/urd/urd/net/SeededRandom" (15 : Nat) (-4658895280553007687 : Int64)).before a0 Z = true := hw _ (List.mem_of_getElem? (i := 17) rfl)
theorem tw_18 {Z : State} {a0 : Array Value} (hw : ∀ d ∈ tables_1, d.before a0 Z = true) : (Jvm.Cond.constantLong "com/example/urd/urd/net/SeededRandom" (17 : Nat) (-7723592293110705685 : Int64)).before a0 Z = true := hw _ (List.mem_of_getElem? (i := 18) rfl)
theorem tw_19 {Z : State} {a0 : Array Value} (hw : ∀ d ∈ tables_1, d.before a0 Z = true) : (Jvm.Cond.constantLong "com/example/urd/urd/net/SeededRandomNextLongPinLaw" (17 : Nat) (-4658895280553007687 : Int64)).before a0 Z = true := hw _ (List.mem_of_getElem? (i := 19) rfl)
theorem tw_20 {Z : State} {a0 : Array Value} (hw : ∀ d ∈ tables_1, d.before a0 Z = true) : (Jvm.Cond.methodLink "com/example/urd/urd/net/SeededRandomNextLongPinLaw" (13 : Nat) ({ cls := "com/example/urd/urd/net/SeededRandomNextLongPinLaw", name := "inverse", desc := "(J)J" } : Jvm.MethodName)).before a0 Z = true := hw _ (List.mem_of_getElem? (i := 20) rfl)
theorem tw_21 {Z : State} {a0 : Array Value} (hw : ∀ d ∈ tables_1, d.before a0 Z = true) : (Jvm.Cond.static ({ cls := "com/example/urd/urd/net/SeededRandomNextLongPinLaw", name := "inverse", desc := "(J)J" } : Jvm.MethodName)).before a0 Z = true := hw _ (List.mem_of_getElem? (i := 21) rfl)
theorem tw_22 {Z : State} {a0 : Array Value} (hw : ∀ d ∈ tables_1, d.before a0 Z = true) : (Jvm.Cond.initialized "com/example/urd/urd/net/SeededRandomNextLongPinLaw").before a0 Z = true := hw _ (List.mem_of_getElem? (i := 22) rfl)
theorem tw_23 {Z : State} {a0 : Array Value} (hw : ∀ d ∈ tables_1, d.before a0 Z = true) : (Jvm.Cond.code ({ cls := "com/example/urd/urd/net/SeededRandomNextLongPinLaw", name := "inverse", desc := "(J)J" } : Jvm.MethodName) method_2_code (4 : Nat) (Option.some Jvm.ClassFile.FieldType.long)).before a0 Z = true := hw _ (List.mem_of_getElem? (i := 23) rfl)
theorem tw_24 {Z : State} {a0 : Array Value} (hw : ∀ d ∈ tables_1, d.before a0 Z = true) : (Jvm.Cond.constantLong "com/example/urd/urd/net/SeededRandomNextLongPinLaw" (7 : Nat) (2 : Int64)).before a0 Z = true := hw _ (List.mem_of_getElem? (i := 24) rfl)
theorem tw_25 {Z : State} {a0 : Array Value} (hw : ∀ d ∈ tables_1, d.before a0 Z = true) : (Jvm.Cond.constantLong "com/example/urd/urd/net/SeededRandomNextLongPinLaw" (11 : Nat) (-7723592293110705685 : Int64)).before a0 Z = true := hw _ (List.mem_of_getElem? (i := 25) rfl)
theorem tw_26 {Z : State} {a0 : Array Value} (hw : ∀ d ∈ tables_1, d.before a0 Z = true) : (Jvm.Cond.methodLink "com/example/urd/urd/net/SeededRandomNextLongPinLaw" (28 : Nat) ({ cls := "com/example/urd/urd/net/SeededRandomNextLongPinLaw", name := "unmix", desc := "(J)J" } : Jvm.MethodName)).before a0 Z = true := hw _ (List.mem_of_getElem? (i := 26) rfl)
theorem tw_27 {Z : State} {a0 : Array Value} (hw : ∀ d ∈ tables_1, d.before a0 Z = true) : (Jvm.Cond.static ({ cls := "com/example/urd/urd/net/SeededRandomNextLongPinLaw", name := "unmix", desc := "(J)J" } : Jvm.MethodName)).before a0 Z = true := hw _ (List.mem_of_getElem? (i := 27) rfl)
theorem tw_28 {Z : State} {a0 : Array Value} (hw : ∀ d ∈ tables_1, d.before a0 Z = true) : (Jvm.Cond.code ({ cls := "com/example/urd/urd/net/SeededRandomNextLongPinLaw", name := "unmix", desc := "(J)J" } : Jvm.MethodName) method_3_code (4 : Nat) (Option.some Jvm.ClassFile.FieldType.long)).before a0 Z = true := hw _ (List.mem_of_getElem? (i := 28) rfl)
theorem tw_29 {Z : State} {a0 : Array Value} (hw : ∀ d ∈ tables_1, d.before a0 Z = true) : (Jvm.Cond.constantLong "com/example/urd/urd/net/SeededRandomNextLongPinLaw" (31 : Nat) (-7046029254386353131 : Int64)).before a0 Z = true := hw _ (List.mem_of_getElem? (i := 29) rfl)
theorem d1_0 : decode prog_44_method_1_code 0 = .ok (.aload_n 0, 1) := by decide +kernel
theorem d1_1 : decode prog_44_method_1_code 1 = .ok (.invokespecial 1, 3) := by decide +kernel
theorem d1_4 : decode prog_44_method_1_code 4 = .ok (.aload_n 0, 1) := by decide +kernel
theorem d1_5 : decode prog_44_method_1_code 5 = .ok (.lload_n 1, 1) := by decide +kernel
theorem d1_6 : decode prog_44_method_1_code 6 = .ok (.putfield 7, 3) := by decide +kernel
theorem d1_9 : decode prog_44_method_1_code 9 = .ok (.return_, 1) := by decide +kernel
theorem pn_0 : plainName "com/example/urd/urd/net/SeededRandom" = true := by first | (simp [plainName, overriddenIn]; done) | decide +kernel
abbrev mN_1 : MethodName := ⟨"com/example/urd/urd/net/SeededRandom", "<init>", "(J)V"⟩
theorem d3_0 : decode prog_44_method_2_code 0 = .ok (.aload_n 0, 1) := by decide +kernel
theorem d3_1 : decode prog_44_method_2_code 1 = .ok (.dup, 1) := by decide +kernel
theorem d3_2 : decode prog_44_method_2_code 2 = .ok (.getfield 7, 3) := by decide +kernel
theorem d3_5 : decode prog_44_method_2_code 5 = .ok (.ldc2_w 13, 3) := by decide +kernel
theorem d3_8 : decode prog_44_method_2_code 8 = .ok (.ladd, 1) := by decide +kernel
theorem d3_9 : decode prog_44_method_2_code 9 = .ok (.putfield 7, 3) := by decide +kernel
theorem d3_12 : decode prog_44_method_2_code 12 = .ok (.aload_n 0, 1) := by decide +kernel
theorem d3_13 : decode prog_44_method_2_code 13 = .ok (.getfield 7, 3) := by decide +kernel
theorem d3_16 : decode prog_44_method_2_code 16 = .ok (.aload_n 0, 1) := by decide +kernel
theorem d3_17 : decode prog_44_method_2_code 17 = .ok (.getfield 7, 3) := by decide +kernel
theorem d3_20 : decode prog_44_method_2_code 20 = .ok (.bipush 30, 2) := by decide +kernel
theorem d3_22 : decode prog_44_method_2_code 22 = .ok (.lushr, 1) := by decide +kernel
theorem d3_23 : decode prog_44_method_2_code 23 = .ok (.lxor, 1) := by decide +kernel
theorem d3_24 : decode prog_44_method_2_code 24 = .ok (.ldc2_w 15, 3) := by decide +kernel
theorem d3_27 : decode prog_44_method_2_code 27 = .ok (.lmul, 1) := by decide +kernel
theorem d3_28 : decode prog_44_method_2_code 28 = .ok (.lstore_n 1, 1) := by decide +kernel
theorem d3_29 : decode prog_44_method_2_code 29 = .ok (.lload_n 1, 1) := by decide +kernel
theorem d3_30 : decode prog_44_method_2_code 30 = .ok (.lload_n 1, 1) := by decide +kernel
theorem d3_31 : decode prog_44_method_2_code 31 = .ok (.bipush 27, 2) := by decide +kernel
theorem d3_33 : decode prog_44_method_2_code 33 = .ok (.lushr, 1) := by decide +kernel
theorem d3_34 : decode prog_44_method_2_code 34 = .ok (.lxor, 1) := by decide +kernel
theorem d3_35 : decode prog_44_method_2_code 35 = .ok (.ldc2_w 17, 3) := by decide +kernel
theorem d3_38 : decode prog_44_method_2_code 38 = .ok (.lmul, 1) := by decide +kernel
theorem d3_39 : decode prog_44_method_2_code 39 = .ok (.lstore_n 1, 1) := by decide +kernel
theorem d3_40 : decode prog_44_method_2_code 40 = .ok (.lload_n 1, 1) := by decide +kernel
theorem d3_41 : decode prog_44_method_2_code 41 = .ok (.lload_n 1, 1) := by decide +kernel
theorem d3_42 : decode prog_44_method_2_code 42 = .ok (.bipush 31, 2) := by decide +kernel
theorem d3_44 : decode prog_44_method_2_code 44 = .ok (.lushr, 1) := by decide +kernel
theorem d3_45 : decode prog_44_method_2_code 45 = .ok (.lxor, 1) := by decide +kernel
theorem d3_46 : decode prog_44_method_2_code 46 = .ok (.lreturn, 1) := by decide +kernel
abbrev mN_3 : MethodName := ⟨"com/example/urd/urd/net/SeededRandom", "nextLong", "()J"⟩
theorem d4_0 : decode method_2_code 0 = .ok (.lload_n 0, 1) := by decide +kernel
theorem d4_1 : decode method_2_code 1 = .ok (.lstore_n 2, 1) := by decide +kernel
theorem d4_2 : decode method_2_code 2 = .ok (.lload_n 2, 1) := by decide +kernel
theorem d4_3 : decode method_2_code 3 = .ok (.ldc2_w 7, 3) := by decide +kernel
theorem d4_6 : decode method_2_code 6 = .ok (.lload_n 0, 1) := by decide +kernel
theorem d4_7 : decode method_2_code 7 = .ok (.lload_n 2, 1) := by decide +kernel
theorem d4_8 : decode method_2_code 8 = .ok (.lmul, 1) := by decide +kernel
theorem d4_9 : decode method_2_code 9 = .ok (.lsub, 1) := by decide +kernel
theorem d4_10 : decode method_2_code 10 = .ok (.lmul, 1) := by decide +kernel
theorem d4_11 : decode method_2_code 11 = .ok (.lstore_n 2, 1) := by decide +kernel
theorem d4_12 : decode method_2_code 12 = .ok (.lload_n 2, 1) := by decide +kernel
theorem d4_13 : decode method_2_code 13 = .ok (.ldc2_w 7, 3) := by decide +kernel
theorem d4_16 : decode method_2_code 16 = .ok (.lload_n 0, 1) := by decide +kernel
theorem d4_17 : decode method_2_code 17 = .ok (.lload_n 2, 1) := by decide +kernel
theorem d4_18 : decode method_2_code 18 = .ok (.lmul, 1) := by decide +kernel
theorem d4_19 : decode method_2_code 19 = .ok (.lsub, 1) := by decide +kernel
theorem d4_20 : decode method_2_code 20 = .ok (.lmul, 1) := by decide +kernel
theorem d4_21 : decode method_2_code 21 = .ok (.lstore_n 2, 1) := by decide +kernel
theorem d4_22 : decode method_2_code 22 = .ok (.lload_n 2, 1) := by decide +kernel
theorem d4_23 : decode method_2_code 23 = .ok (.ldc2_w 7, 3) := by decide +kernel
theorem d4_26 : decode method_2_code 26 = .ok (.lload_n 0, 1) := by decide +kernel
theorem d4_27 : decode method_2_code 27 = .ok (.lload_n 2, 1) := by decide +kernel
theorem d4_28 : decode method_2_code 28 = .ok (.lmul, 1) := by decide +kernel
theorem d4_29 : decode method_2_code 29 = .ok (.lsub, 1) := by decide +kernel
theorem d4_30 : decode method_2_code 30 = .ok (.lmul, 1) := by decide +kernel
theorem d4_31 : decode method_2_code 31 = .ok (.lstore_n 2, 1) := by decide +kernel
theorem d4_32 : decode method_2_code 32 = .ok (.lload_n 2, 1) := by decide +kernel
theorem d4_33 : decode method_2_code 33 = .ok (.ldc2_w 7, 3) := by decide +kernel
theorem d4_36 : decode method_2_code 36 = .ok (.lload_n 0, 1) := by decide +kernel
theorem d4_37 : decode method_2_code 37 = .ok (.lload_n 2, 1) := by decide +kernel
theorem d4_38 : decode method_2_code 38 = .ok (.lmul, 1) := by decide +kernel
theorem d4_39 : decode method_2_code 39 = .ok (.lsub, 1) := by decide +kernel
theorem d4_40 : decode method_2_code 40 = .ok (.lmul, 1) := by decide +kernel
theorem d4_41 : decode method_2_code 41 = .ok (.lstore_n 2, 1) := by decide +kernel
theorem d4_42 : decode method_2_code 42 = .ok (.lload_n 2, 1) := by decide +kernel
theorem d4_43 : decode method_2_code 43 = .ok (.ldc2_w 7, 3) := by decide +kernel
theorem d4_46 : decode method_2_code 46 = .ok (.lload_n 0, 1) := by decide +kernel
theorem d4_47 : decode method_2_code 47 = .ok (.lload_n 2, 1) := by decide +kernel
theorem d4_48 : decode method_2_code 48 = .ok (.lmul, 1) := by decide +kernel
theorem d4_49 : decode method_2_code 49 = .ok (.lsub, 1) := by decide +kernel
theorem d4_50 : decode method_2_code 50 = .ok (.lmul, 1) := by decide +kernel
theorem d4_51 : decode method_2_code 51 = .ok (.lstore_n 2, 1) := by decide +kernel
theorem d4_52 : decode method_2_code 52 = .ok (.lload_n 2, 1) := by decide +kernel
theorem d4_53 : decode method_2_code 53 = .ok (.lreturn, 1) := by decide +kernel
theorem pn_1 : plainName "com/example/urd/urd/net/SeededRandomNextLongPinLaw" = true := by first | (simp [plainName, overriddenIn]; done) | decide +kernel
abbrev mN_4 : MethodName := ⟨"com/example/urd/urd/net/SeededRandomNextLongPinLaw", "inverse", "(J)J"⟩
theorem pd_0 : parseMethodDescriptor "(J)J" = some ⟨[.long], some .long⟩ := by decide +kernel
theorem d5_0 : decode method_3_code 0 = .ok (.lload_n 0, 1) := by decide +kernel
theorem d5_1 : decode method_3_code 1 = .ok (.lload_n 0, 1) := by decide +kernel
theorem d5_2 : decode method_3_code 2 = .ok (.bipush 31, 2) := by decide +kernel
theorem d5_4 : decode method_3_code 4 = .ok (.lushr, 1) := by decide +kernel
theorem d5_5 : decode method_3_code 5 = .ok (.lxor, 1) := by decide +kernel
theorem d5_6 : decode method_3_code 6 = .ok (.lload_n 0, 1) := by decide +kernel
theorem d5_7 : decode method_3_code 7 = .ok (.bipush 62, 2) := by decide +kernel
theorem d5_9 : decode method_3_code 9 = .ok (.lushr, 1) := by decide +kernel
theorem d5_10 : decode method_3_code 10 = .ok (.lxor, 1) := by decide +kernel
theorem d5_11 : decode method_3_code 11 = .ok (.lstore_n 2, 1) := by decide +kernel
theorem d5_12 : decode method_3_code 12 = .ok (.lload_n 2, 1) := by decide +kernel
theorem d5_13 : decode method_3_code 13 = .ok (.ldc2_w 11, 3) := by decide +kernel
theorem d5_16 : decode method_3_code 16 = .ok (.invokestatic 13, 3) := by decide +kernel
theorem d5_19 : decode method_3_code 19 = .ok (.lmul, 1) := by decide +kernel
theorem d5_20 : decode method_3_code 20 = .ok (.lstore_n 2, 1) := by decide +kernel
theorem d5_21 : decode method_3_code 21 = .ok (.lload_n 2, 1) := by decide +kernel
theorem d5_22 : decode method_3_code 22 = .ok (.lload_n 2, 1) := by decide +kernel
theorem d5_23 : decode method_3_code 23 = .ok (.bipush 27, 2) := by decide +kernel
theorem d5_25 : decode method_3_code 25 = .ok (.lushr, 1) := by decide +kernel
theorem d5_26 : decode method_3_code 26 = .ok (.lxor, 1) := by decide +kernel
theorem d5_27 : decode method_3_code 27 = .ok (.lload_n 2, 1) := by decide +kernel
theorem d5_28 : decode method_3_code 28 = .ok (.bipush 54, 2) := by decide +kernel
theorem d5_30 : decode method_3_code 30 = .ok (.lushr, 1) := by decide +kernel
theorem d5_31 : decode method_3_code 31 = .ok (.lxor, 1) := by decide +kernel
theorem d5_32 : decode method_3_code 32 = .ok (.lstore_n 2, 1) := by decide +kernel
theorem d5_33 : decode method_3_code 33 = .ok (.lload_n 2, 1) := by decide +kernel
theorem d5_34 : decode method_3_code 34 = .ok (.ldc2_w 17, 3) := by decide +kernel
theorem d5_37 : decode method_3_code 37 = .ok (.invokestatic 13, 3) := by decide +kernel
theorem d5_40 : decode method_3_code 40 = .ok (.lmul, 1) := by decide +kernel
theorem d5_41 : decode method_3_code 41 = .ok (.lstore_n 2, 1) := by decide +kernel
theorem d5_42 : decode method_3_code 42 = .ok (.lload_n 2, 1) := by decide +kernel
theorem d5_43 : decode method_3_code 43 = .ok (.lload_n 2, 1) := by decide +kernel
theorem d5_44 : decode method_3_code 44 = .ok (.bipush 30, 2) := by decide +kernel
theorem d5_46 : decode method_3_code 46 = .ok (.lushr, 1) := by decide +kernel
theorem d5_47 : decode method_3_code 47 = .ok (.lxor, 1) := by decide +kernel
theorem d5_48 : decode method_3_code 48 = .ok (.lload_n 2, 1) := by decide +kernel
theorem d5_49 : decode method_3_code 49 = .ok (.bipush 60, 2) := by decide +kernel
theorem d5_51 : decode method_3_code 51 = .ok (.lushr, 1) := by decide +kernel
theorem d5_52 : decode method_3_code 52 = .ok (.lxor, 1) := by decide +kernel
theorem d5_53 : decode method_3_code 53 = .ok (.lstore_n 2, 1) := by decide +kernel
theorem d5_54 : decode method_3_code 54 = .ok (.lload_n 2, 1) := by decide +kernel
theorem d5_55 : decode method_3_code 55 = .ok (.lreturn, 1) := by decide +kernel
abbrev mN_5 : MethodName := ⟨"com/example/urd/urd/net/SeededRandomNextLongPinLaw", "unmix", "(J)J"⟩
theorem pd_1 : parseMethodDescriptor "(J)V" = some ⟨[.long], none⟩ := by decide +kernel
theorem pd_2 : parseMethodDescriptor "()J" = some ⟨[], some .long⟩ := by decide +kernel
def own_shr (x : Int64) (k : Int32) : Int64 := (x.toUInt64 >>> (k &&& 0x3f).toInt64.toUInt64).toInt64
def own_nw (a x : Int64) : Int64 := x * ((2 : Int64) - a * x)
def own_inv (a : Int64) : Int64 := own_nw a (own_nw a (own_nw a (own_nw a (own_nw a a))))
def own_M1 : Int64 := (-4658895280553007687 : Int64)
def own_M2 : Int64 := (-7723592293110705685 : Int64)
def own_mix (y : Int64) : Int64 :=
  let a := (y ^^^ own_shr y 30) * (-4658895280553007687 : Int64)
  let b := (a ^^^ own_shr a 27) * (-7723592293110705685 : Int64)
  b ^^^ own_shr b 31
def own_unmix (o : Int64) : Int64 :=
  let m1 := (o ^^^ own_shr o 31) ^^^ own_shr o 62
  let m2 := m1 * own_inv (-7723592293110705685 : Int64)
  let m3 := (m2 ^^^ own_shr m2 27) ^^^ own_shr m2 54
  let m4 := m3 * own_inv (-4658895280553007687 : Int64)
  (m4 ^^^ own_shr m4 30) ^^^ own_shr m4 60
theorem own_shr_bv (x : Int64) (k : Int32) (n : Nat) (hn : n < 64) (hk : ((k &&& 0x3f).toInt64.toUInt64).toNat = n) : (own_shr x k).toBitVec = x.toBitVec >>> n := by
  unfold own_shr
  show ((x.toUInt64 >>> (k &&& 0x3f).toInt64.toUInt64).toBitVec) = _
  rw [UInt64.toBitVec_shiftRight]
  show x.toBitVec >>> ((k &&& 0x3f).toInt64.toUInt64.toBitVec % 64) = _
  have e : ((k &&& 0x3f).toInt64.toUInt64.toBitVec % 64).toNat = n := by
    rw [BitVec.toNat_umod]
    show (k &&& 0x3f).toInt64.toUInt64.toNat % 64 = n
    rw [hk]; omega
  rw [BitVec.ushiftRight_eq', e]
theorem own_bv (x : BitVec 64) (n : Nat) (h1 : 22 ≤ n) : ((x ^^^ x >>> n) ^^^ (x ^^^ x >>> n) >>> n) ^^^ (x ^^^ x >>> n) >>> (n + n) = x := by
  apply BitVec.eq_of_getLsbD_eq
  intro i hi
  simp only [BitVec.getLsbD_xor, BitVec.getLsbD_ushiftRight]
  have z : x.getLsbD (n + (n + n + i)) = false := BitVec.getLsbD_of_ge _ _ (by omega)
  rw [show n + (n + i) = n + n + i by omega, z]
  cases x.getLsbD i <;> cases x.getLsbD (n + i) <;> cases x.getLsbD (n + n + i) <;> rfl
theorem own_un (x : Int64) (k k2 : Int32) (n : Nat) (h1 : 22 ≤ n) (h2 : n + n < 64) (hk : ((k &&& 0x3f).toInt64.toUInt64).toNat = n) (hk2 : ((k2 &&& 0x3f).toInt64.toUInt64).toNat = n + n) : ((x ^^^ own_shr x k) ^^^ own_shr (x ^^^ own_shr x k) k) ^^^ own_shr (x ^^^ own_shr x k) k2 = x := by
  apply Int64.toBitVec_inj.mp
  simp only [Int64.toBitVec_xor, own_shr_bv _ k n (by omega) hk, own_shr_bv _ k2 (n + n) (by omega) hk2]
  exact own_bv x.toBitVec n h1
theorem own_i1 : (-4658895280553007687 : Int64) * own_inv (-4658895280553007687 : Int64) = 1 := by decide +kernel
theorem own_i2 : (-7723592293110705685 : Int64) * own_inv (-7723592293110705685 : Int64) = 1 := by decide +kernel
theorem own_law (y : Int64) : own_unmix (own_mix y) = y := by
  unfold own_unmix own_mix
  simp only
  rw [own_un _ 31 62 31 (by decide) (by decide) (by decide) (by decide), Int64.mul_assoc, own_i2, Int64.mul_one, own_un _ 27 54 27 (by decide) (by decide) (by decide) (by decide), Int64.mul_assoc, own_i1, Int64.mul_one, own_un _ 30 60 30 (by decide) (by decide) (by decide) (by decide)]
theorem ef_1 (m : MethodId) (x0 : Addr) (x1 : Int64) : entryFrame m #[(.ref x0), (.long x1)] 3 = mkF m 0 #[.val (.ref x0), .val (.long x1), .second] [] := by first | (simp [entryFrame, mkF, argsToLocals, Value.category]; done) | rfl
def Q1 (Z : State) (a : Addr) (sd : Int64) (h0 : Heap) (n0 : Nat) (v : Option Value) (h : Heap) (L : List Loc) : Prop := v = none ∧ Fr n0 L ∧ Keep h0 h [a] ∧ Fld Z h a cN_0 "state" "J" (.long sd)
set_option maxRecDepth 65536 in
set_option maxHeartbeats 40000000 in
theorem rm1 (l : Launch) (Z : State) (a0 : Array Value) (hw : ∀ d ∈ tables_1, d.before a0 Z = true) (ws : List Jvm.Cond) (a : Addr) (sd : Int64) (h0 : Heap) (n0 : Nat) (Z0 : n0 ≤ h0.size) (E_a : Exa Z h0 a cN_0) (F_state_a : Fld Z h0 a cN_0 "state" "J" (.long (0 : Int64))) (g_a : n0 ≤ a) :
    CT l mN_1 prog_44_method_1_code 3 none ws ({ frames := 1, cells := 0, slots := 0, locals := 12 } : Room) #[(.ref a), (.long sd)] Z h0 (Q1 Z a sd h0 n0) := by
  refine body_of (plainFor_of_name pn_0) ?_
  intro p e s m below meth c s₁ hx dB hret hlk hml hown0 hnm X0 e0 hZ
  have hown : s.vm.findClass cN_0 = some m.cls := hown0
  have N0 := Fr.nil n0
  rw [ef_1]
  show Wk p e below (FN s (Q1 Z a sd h0 n0) 0 0) s₁ (mkF m 0 #[.val (.ref a), .val (.long sd), .second] [])
  have r_sd := rng64 sd
  refine w_aloadN X0 hx (.ref a) (dB d1_0) 1 rfl rfl rfl ?_
  refine w_objinit X0 hx hZ hown e0 (tw_6 hw) (tw_7 hw) (tw_8 hw) (by rw [hml]; rfl) (by decide) 0 rfl (by decide) (dB d1_1) 4 rfl (fun T1 X1 e1 => ?_)
  refine w_aloadN X1 hx (.ref a) (dB d1_4) 5 rfl rfl rfl ?_
  refine w_lloadN X1 hx sd (dB d1_5) 6 rfl rfl ?_
  refine w_putF X1 hx hZ hown e1 (host := "") (Or.inl (tw_9 hw)) Via.refl F_state_a E_a (Or.inl (tw_10 hw)) (tw_1 hw) (ty := .long) (by decide) rfl rfl (dB d1_6) 9 rfl (fun T2 h2 X2 e2 W2 => ?_)
  have F3 : Exa Z h2 a cN_0 := E_a.wr W2
  have F4 : Fld Z h2 a cN_0 "state" "J" (.long sd) := F_state_a.same W2
  have Z2 : n0 ≤ h2.size := by rw [W2.size]; exact Z0
  have K2 : Keep h0 h2 [a] := (Keep.refl h0 [a]).wr W2 (Or.inl (List.mem_of_getElem? (i := 0) rfl))
  have N2 := Fr.snoc X2 N0 g_a
  refine w_ret0 X2 hx hlk hret (dB d1_9) (by decide) (by decide) ?_
  rw [e2]
  exact ⟨rfl, N2, K2, F4⟩
theorem ef_3 (m : MethodId) (x0 : Addr) : entryFrame m #[(.ref x0)] 3 = mkF m 0 #[.val (.ref x0), .unset, .unset] [] := by first | (simp [entryFrame, mkF, argsToLocals, Value.category]; done) | rfl
def Q3 (Z : State) (a : Addr) (sd : Int64) (h0 : Heap) (n0 : Nat) (v : Option Value) (h : Heap) (L : List Loc) : Prop := ∃ y : Int64, ∃ rz : Int64, v = some (.long rz) ∧ (y = sd + (-7046029254386353131 : Int64) ∧ rz = own_mix y) ∧ Fr n0 L ∧ Keep h0 h [a] ∧ Fld Z h a cN_0 "state" "J" (.long y)
set_option maxRecDepth 65536 in
set_option maxHeartbeats 40000000 in
theorem rm3 (l : Launch) (Z : State) (a0 : Array Value) (hw : ∀ d ∈ tables_1, d.before a0 Z = true) (ws : List Jvm.Cond) (a : Addr) (sd : Int64) (h0 : Heap) (n0 : Nat) (Z0 : n0 ≤ h0.size) (E_a : Exa Z h0 a cN_0) (F_state_a : Fld Z h0 a cN_0 "state" "J" (.long sd)) (g_a : n0 ≤ a) :
    CT l mN_3 prog_44_method_2_code 3 (some .long) ws ({ frames := 0, cells := 0, slots := 0, locals := 0 } : Room) #[(.ref a)] Z h0 (Q3 Z a sd h0 n0) := by
  refine body_of (plainFor_of_name pn_0) ?_
  intro p e s m below meth c s₁ hx dB hret hlk hml hown0 hnm X0 e0 hZ
  have hown : s.vm.findClass cN_0 = some m.cls := hown0
  have N0 := Fr.nil n0
  rw [ef_3]
  show Wk p e below (FN s (Q3 Z a sd h0 n0) 0 0) s₁ (mkF m 0 #[.val (.ref a), .unset, .unset] [])
  refine w_aloadN X0 hx (.ref a) (dB d3_0) 1 rfl rfl rfl ?_
  refine w_dup X0 hx (dB d3_1) 2 rfl rfl ?_
  refine w_getF X0 hx hZ hown e0 (host := "") (Or.inl (tw_9 hw)) Via.refl F_state_a (dB d3_2) 5 rfl (fun T5 X5 e5 => ?_)
  refine w_ldc2 X5 hx hZ hown (tw_16 hw) (dB d3_5) 8 rfl ?_
  obtain ⟨v6, e6⟩ : ∃ z : Int64, z = sd + (-7046029254386353131 : Int64) := ⟨_, rfl⟩
  have n6 : (v6.toInt - (sd.toInt + (-7046029254386353131))) % 18446744073709551616 = 0 := by rw [e6]; exact laddM rfl (by decide)
  have n6b : -9223372036854775808 ≤ v6.toInt ∧ v6.toInt < 9223372036854775808 := by rw [e6]; exact rng64 _
  refine w_ladd X5 hx (dB d3_8) 9 rfl e6 ?_
  refine w_putF X5 hx hZ hown e5 (host := "") (Or.inl (tw_9 hw)) Via.refl F_state_a E_a (Or.inl (tw_10 hw)) (tw_1 hw) (ty := .long) (by decide) rfl rfl (dB d3_9) 12 rfl (fun T7 h7 X7 e7 W7 => ?_)
  have F8 : Exa Z h7 a cN_0 := E_a.wr W7
  have F9 : Fld Z h7 a cN_0 "state" "J" (.long v6) := F_state_a.same W7
  have Z7 : n0 ≤ h7.size := by rw [W7.size]; exact Z0
  have K7 : Keep h0 h7 [a] := (Keep.refl h0 [a]).wr W7 (Or.inl (List.mem_of_getElem? (i := 0) rfl))
  have N7 := Fr.snoc X7 N0 g_a
  refine w_aloadN X7 hx (.ref a) (dB d3_12) 13 rfl rfl rfl ?_
  refine w_getF X7 hx hZ hown e7 (host := "") (Or.inl (tw_9 hw)) Via.refl F9 (dB d3_13) 16 rfl (fun T10 X10 e10 => ?_)
  refine w_aloadN X10 hx (.ref a) (dB d3_16) 17 rfl rfl rfl ?_
  refine w_getF X10 hx hZ hown e10 (host := "") (Or.inl (tw_9 hw)) Via.refl F9 (dB d3_17) 20 rfl (fun T11 X11 e11 => ?_)
  refine w_bipush X11 hx (dB d3_20) 22 rfl (30 : Int32) (by decide) ?_
  obtain ⟨v12, e12⟩ : ∃ z : Int64, z = (v6.toUInt64 >>> ((30 : Int32) &&& 0x3f).toInt64.toUInt64).toInt64 := ⟨_, rfl⟩
  have n12 : -9223372036854775808 ≤ v12.toInt ∧ v12.toInt < 9223372036854775808 := by rw [e12]; exact rng64 _
  refine w_lushr X11 hx (dB d3_22) 23 rfl e12 ?_
  obtain ⟨v13, e13⟩ : ∃ z : Int64, z = v6 ^^^ v12 := ⟨_, rfl⟩
  have n13 : -9223372036854775808 ≤ v13.toInt ∧ v13.toInt < 9223372036854775808 := by rw [e13]; exact rng64 _
  refine w_lxor X11 hx (dB d3_23) 24 rfl e13 ?_
  refine w_ldc2 X11 hx hZ hown (tw_17 hw) (dB d3_24) 27 rfl ?_
  obtain ⟨v14, e14⟩ : ∃ z : Int64, z = v13 * (-4658895280553007687 : Int64) := ⟨_, rfl⟩
  have n14 : -9223372036854775808 ≤ v14.toInt ∧ v14.toInt < 9223372036854775808 := by rw [e14]; exact rng64 _
  refine w_lmul X11 hx (dB d3_27) 28 rfl e14 ?_
  refine w_lstoreN X11 hx (dB d3_28) 29 rfl #[.val (.ref a), .val (.long v14), .second] rfl ?_
  refine w_lloadN X11 hx v14 (dB d3_29) 30 rfl rfl ?_
  refine w_lloadN X11 hx v14 (dB d3_30) 31 rfl rfl ?_
  refine w_bipush X11 hx (dB d3_31) 33 rfl (27 : Int32) (by decide) ?_
  obtain ⟨v15, e15⟩ : ∃ z : Int64, z = (v14.toUInt64 >>> ((27 : Int32) &&& 0x3f).toInt64.toUInt64).toInt64 := ⟨_, rfl⟩
  have n15 : -9223372036854775808 ≤ v15.toInt ∧ v15.toInt < 9223372036854775808 := by rw [e15]; exact rng64 _
  refine w_lushr X11 hx (dB d3_33) 34 rfl e15 ?_
  obtain ⟨v16, e16⟩ : ∃ z : Int64, z = v14 ^^^ v15 := ⟨_, rfl⟩
  have n16 : -9223372036854775808 ≤ v16.toInt ∧ v16.toInt < 9223372036854775808 := by rw [e16]; exact rng64 _
  refine w_lxor X11 hx (dB d3_34) 35 rfl e16 ?_
  refine w_ldc2 X11 hx hZ hown (tw_18 hw) (dB d3_35) 38 rfl ?_
  obtain ⟨v17, e17⟩ : ∃ z : Int64, z = v16 * (-7723592293110705685 : Int64) := ⟨_, rfl⟩
  have n17 : -9223372036854775808 ≤ v17.toInt ∧ v17.toInt < 9223372036854775808 := by rw [e17]; exact rng64 _
  refine w_lmul X11 hx (dB d3_38) 39 rfl e17 ?_
  refine w_lstoreN X11 hx (dB d3_39) 40 rfl #[.val (.ref a), .val (.long v17), .second] rfl ?_
  refine w_lloadN X11 hx v17 (dB d3_40) 41 rfl rfl ?_
  refine w_lloadN X11 hx v17 (dB d3_41) 42 rfl rfl ?_
  refine w_bipush X11 hx (dB d3_42) 44 rfl (31 : Int32) (by decide) ?_
  obtain ⟨v18, e18⟩ : ∃ z : Int64, z = (v17.toUInt64 >>> ((31 : Int32) &&& 0x3f).toInt64.toUInt64).toInt64 := ⟨_, rfl⟩
  have n18 : -9223372036854775808 ≤ v18.toInt ∧ v18.toInt < 9223372036854775808 := by rw [e18]; exact rng64 _
  refine w_lushr X11 hx (dB d3_44) 45 rfl e18 ?_
  obtain ⟨v19, e19⟩ : ∃ z : Int64, z = v17 ^^^ v18 := ⟨_, rfl⟩
  have n19 : -9223372036854775808 ≤ v19.toInt ∧ v19.toInt < 9223372036854775808 := by rw [e19]; exact rng64 _
  refine w_lxor X11 hx (dB d3_45) 46 rfl e19 ?_
  refine w_retL X11 hx hlk hret (dB d3_46) (by decide) (by decide) ?_
  rw [e11]
  exact ⟨v6, v19, rfl, by simp only [own_mix, own_shr, and_self, e6, e12, e13, e14, e15, e16, e17, e18, e19], N7, K7, F9⟩
theorem ef_4 (m : MethodId) (x0 : Int64) : entryFrame m #[(.long x0)] 4 = mkF m 0 #[.val (.long x0), .second, .unset, .unset] [] := by first | (simp [entryFrame, mkF, argsToLocals, Value.category]; done) | rfl
def Q4 (Z : State) (a : Int64) (h0 : Heap) (n0 : Nat) (v : Option Value) (h : Heap) (L : List Loc) : Prop := ∃ z : Int64, v = some (.long z) ∧ (z = own_inv a) ∧ Fr n0 L ∧ h = h0
set_option maxRecDepth 65536 in
set_option maxHeartbeats 40000000 in
theorem rm4 (l : Launch) (Z : State) (a0 : Array Value) (hw : ∀ d ∈ tables_1, d.before a0 Z = true) (ws : List Jvm.Cond) (a : Int64) (h0 : Heap) (n0 : Nat) (Z0 : n0 ≤ h0.size) :
    CT l mN_4 method_2_code 4 (some .long) ws ({ frames := 0, cells := 0, slots := 0, locals := 0 } : Room) #[(.long a)] Z h0 (Q4 Z a h0 n0) := by
  refine body_of (plainFor_of_name pn_1) ?_
  intro p e s m below meth c s₁ hx dB hret hlk hml hown0 hnm X0 e0 hZ
  have hown : s.vm.findClass cN_1 = some m.cls := hown0
  have N0 := Fr.nil n0
  rw [ef_4]
  show Wk p e below (FN s (Q4 Z a h0 n0) 0 0) s₁ (mkF m 0 #[.val (.long a), .second, .unset, .unset] [])
  have r_a := rng64 a
  refine w_lloadN X0 hx a (dB d4_0) 1 rfl rfl ?_
  refine w_lstoreN X0 hx (dB d4_1) 2 rfl #[.val (.long a), .second, .val (.long a), .second] rfl ?_
  refine w_lloadN X0 hx a (dB d4_2) 3 rfl rfl ?_
  refine w_ldc2 X0 hx hZ hown (tw_24 hw) (dB d4_3) 6 rfl ?_
  refine w_lloadN X0 hx a (dB d4_6) 7 rfl rfl ?_
  refine w_lloadN X0 hx a (dB d4_7) 8 rfl rfl ?_
  obtain ⟨v20, e20⟩ : ∃ z : Int64, z = a * a := ⟨_, rfl⟩
  have n20 : -9223372036854775808 ≤ v20.toInt ∧ v20.toInt < 9223372036854775808 := by rw [e20]; exact rng64 _
  refine w_lmul X0 hx (dB d4_8) 9 rfl e20 ?_
  obtain ⟨v21, e21⟩ : ∃ z : Int64, z = (2 : Int64) - v20 := ⟨_, rfl⟩
  have n21 : (v21.toInt - (2 - v20.toInt)) % 18446744073709551616 = 0 := by rw [e21]; exact lsubM (by decide) rfl
  have n21b : -9223372036854775808 ≤ v21.toInt ∧ v21.toInt < 9223372036854775808 := by rw [e21]; exact rng64 _
  refine w_lsub X0 hx (dB d4_9) 10 rfl e21 ?_
  obtain ⟨v22, e22⟩ : ∃ z : Int64, z = a * v21 := ⟨_, rfl⟩
  have n22 : -9223372036854775808 ≤ v22.toInt ∧ v22.toInt < 9223372036854775808 := by rw [e22]; exact rng64 _
  refine w_lmul X0 hx (dB d4_10) 11 rfl e22 ?_
  refine w_lstoreN X0 hx (dB d4_11) 12 rfl #[.val (.long a), .second, .val (.long v22), .second] rfl ?_
  refine w_lloadN X0 hx v22 (dB d4_12) 13 rfl rfl ?_
  refine w_ldc2 X0 hx hZ hown (tw_24 hw) (dB d4_13) 16 rfl ?_
  refine w_lloadN X0 hx a (dB d4_16) 17 rfl rfl ?_
  refine w_lloadN X0 hx v22 (dB d4_17) 18 rfl rfl ?_
  obtain ⟨v23, e23⟩ : ∃ z : Int64, z = a * v22 := ⟨_, rfl⟩
  have n23 : -9223372036854775808 ≤ v23.toInt ∧ v23.toInt < 9223372036854775808 := by rw [e23]; exact rng64 _
  refine w_lmul X0 hx (dB d4_18) 19 rfl e23 ?_
  obtain ⟨v24, e24⟩ : ∃ z : Int64, z = (2 : Int64) - v23 := ⟨_, rfl⟩
  have n24 : (v24.toInt - (2 - v23.toInt)) % 18446744073709551616 = 0 := by rw [e24]; exact lsubM (by decide) rfl
  have n24b : -9223372036854775808 ≤ v24.toInt ∧ v24.toInt < 9223372036854775808 := by rw [e24]; exact rng64 _
  refine w_lsub X0 hx (dB d4_19) 20 rfl e24 ?_
  obtain ⟨v25, e25⟩ : ∃ z : Int64, z = v22 * v24 := ⟨_, rfl⟩
  have n25 : -9223372036854775808 ≤ v25.toInt ∧ v25.toInt < 9223372036854775808 := by rw [e25]; exact rng64 _
  refine w_lmul X0 hx (dB d4_20) 21 rfl e25 ?_
  refine w_lstoreN X0 hx (dB d4_21) 22 rfl #[.val (.long a), .second, .val (.long v25), .second] rfl ?_
  refine w_lloadN X0 hx v25 (dB d4_22) 23 rfl rfl ?_
  refine w_ldc2 X0 hx hZ hown (tw_24 hw) (dB d4_23) 26 rfl ?_
  refine w_lloadN X0 hx a (dB d4_26) 27 rfl rfl ?_
  refine w_lloadN X0 hx v25 (dB d4_27) 28 rfl rfl ?_
  obtain ⟨v26, e26⟩ : ∃ z : Int64, z = a * v25 := ⟨_, rfl⟩
  have n26 : -9223372036854775808 ≤ v26.toInt ∧ v26.toInt < 9223372036854775808 := by rw [e26]; exact rng64 _
  refine w_lmul X0 hx (dB d4_28) 29 rfl e26 ?_
  obtain ⟨v27, e27⟩ : ∃ z : Int64, z = (2 : Int64) - v26 := ⟨_, rfl⟩
  have n27 : (v27.toInt - (2 - v26.toInt)) % 18446744073709551616 = 0 := by rw [e27]; exact lsubM (by decide) rfl
  have n27b : -9223372036854775808 ≤ v27.toInt ∧ v27.toInt < 9223372036854775808 := by rw [e27]; exact rng64 _
  refine w_lsub X0 hx (dB d4_29) 30 rfl e27 ?_
  obtain ⟨v28, e28⟩ : ∃ z : Int64, z = v25 * v27 := ⟨_, rfl⟩
  have n28 : -9223372036854775808 ≤ v28.toInt ∧ v28.toInt < 9223372036854775808 := by rw [e28]; exact rng64 _
  refine w_lmul X0 hx (dB d4_30) 31 rfl e28 ?_
  refine w_lstoreN X0 hx (dB d4_31) 32 rfl #[.val (.long a), .second, .val (.long v28), .second] rfl ?_
  refine w_lloadN X0 hx v28 (dB d4_32) 33 rfl rfl ?_
  refine w_ldc2 X0 hx hZ hown (tw_24 hw) (dB d4_33) 36 rfl ?_
  refine w_lloadN X0 hx a (dB d4_36) 37 rfl rfl ?_
  refine w_lloadN X0 hx v28 (dB d4_37) 38 rfl rfl ?_
  obtain ⟨v29, e29⟩ : ∃ z : Int64, z = a * v28 := ⟨_, rfl⟩
  have n29 : -9223372036854775808 ≤ v29.toInt ∧ v29.toInt < 9223372036854775808 := by rw [e29]; exact rng64 _
  refine w_lmul X0 hx (dB d4_38) 39 rfl e29 ?_
  obtain ⟨v30, e30⟩ : ∃ z : Int64, z = (2 : Int64) - v29 := ⟨_, rfl⟩
  have n30 : (v30.toInt - (2 - v29.toInt)) % 18446744073709551616 = 0 := by rw [e30]; exact lsubM (by decide) rfl
  have n30b : -9223372036854775808 ≤ v30.toInt ∧ v30.toInt < 9223372036854775808 := by rw [e30]; exact rng64 _
  refine w_lsub X0 hx (dB d4_39) 40 rfl e30 ?_
  obtain ⟨v31, e31⟩ : ∃ z : Int64, z = v28 * v30 := ⟨_, rfl⟩
  have n31 : -9223372036854775808 ≤ v31.toInt ∧ v31.toInt < 9223372036854775808 := by rw [e31]; exact rng64 _
  refine w_lmul X0 hx (dB d4_40) 41 rfl e31 ?_
  refine w_lstoreN X0 hx (dB d4_41) 42 rfl #[.val (.long a), .second, .val (.long v31), .second] rfl ?_
  refine w_lloadN X0 hx v31 (dB d4_42) 43 rfl rfl ?_
  refine w_ldc2 X0 hx hZ hown (tw_24 hw) (dB d4_43) 46 rfl ?_
  refine w_lloadN X0 hx a (dB d4_46) 47 rfl rfl ?_
  refine w_lloadN X0 hx v31 (dB d4_47) 48 rfl rfl ?_
  obtain ⟨v32, e32⟩ : ∃ z : Int64, z = a * v31 := ⟨_, rfl⟩
  have n32 : -9223372036854775808 ≤ v32.toInt ∧ v32.toInt < 9223372036854775808 := by rw [e32]; exact rng64 _
  refine w_lmul X0 hx (dB d4_48) 49 rfl e32 ?_
  obtain ⟨v33, e33⟩ : ∃ z : Int64, z = (2 : Int64) - v32 := ⟨_, rfl⟩
  have n33 : (v33.toInt - (2 - v32.toInt)) % 18446744073709551616 = 0 := by rw [e33]; exact lsubM (by decide) rfl
  have n33b : -9223372036854775808 ≤ v33.toInt ∧ v33.toInt < 9223372036854775808 := by rw [e33]; exact rng64 _
  refine w_lsub X0 hx (dB d4_49) 50 rfl e33 ?_
  obtain ⟨v34, e34⟩ : ∃ z : Int64, z = v31 * v33 := ⟨_, rfl⟩
  have n34 : -9223372036854775808 ≤ v34.toInt ∧ v34.toInt < 9223372036854775808 := by rw [e34]; exact rng64 _
  refine w_lmul X0 hx (dB d4_50) 51 rfl e34 ?_
  refine w_lstoreN X0 hx (dB d4_51) 52 rfl #[.val (.long a), .second, .val (.long v34), .second] rfl ?_
  refine w_lloadN X0 hx v34 (dB d4_52) 53 rfl rfl ?_
  refine w_retL X0 hx hlk hret (dB d4_53) (by decide) (by decide) ?_
  rw [e0]
  exact ⟨v34, rfl, by simp only [own_inv, own_nw, e20, e21, e22, e23, e24, e25, e26, e27, e28, e29, e30, e31, e32, e33, e34], N0, rfl⟩
theorem ef_5 (m : MethodId) (x0 : Int64) : entryFrame m #[(.long x0)] 4 = mkF m 0 #[.val (.long x0), .second, .unset, .unset] [] := by first | (simp [entryFrame, mkF, argsToLocals, Value.category]; done) | rfl
def Q5 (Z : State) (a : Int64) (h0 : Heap) (n0 : Nat) (v : Option Value) (h : Heap) (L : List Loc) : Prop := ∃ z : Int64, v = some (.long z) ∧ (z = own_unmix a) ∧ Fr n0 L ∧ h = h0
set_option maxRecDepth 65536 in
set_option maxHeartbeats 40000000 in
theorem rm5 (l : Launch) (Z : State) (a0 : Array Value) (hw : ∀ d ∈ tables_1, d.before a0 Z = true) (ws : List Jvm.Cond) (a : Int64) (h0 : Heap) (n0 : Nat) (Z0 : n0 ≤ h0.size) :
    CT l mN_5 method_3_code 4 (some .long) ws ({ frames := 1, cells := 0, slots := 0, locals := 17 } : Room) #[(.long a)] Z h0 (Q5 Z a h0 n0) := by
  refine body_of (plainFor_of_name pn_1) ?_
  intro p e s m below meth c s₁ hx dB hret hlk hml hown0 hnm X0 e0 hZ
  have hown : s.vm.findClass cN_1 = some m.cls := hown0
  have N0 := Fr.nil n0
  rw [ef_5]
  show Wk p e below (FN s (Q5 Z a h0 n0) 0 0) s₁ (mkF m 0 #[.val (.long a), .second, .unset, .unset] [])
  have r_a := rng64 a
  refine w_lloadN X0 hx a (dB d5_0) 1 rfl rfl ?_
  refine w_lloadN X0 hx a (dB d5_1) 2 rfl rfl ?_
  refine w_bipush X0 hx (dB d5_2) 4 rfl (31 : Int32) (by decide) ?_
  obtain ⟨v35, e35⟩ : ∃ z : Int64, z = (a.toUInt64 >>> ((31 : Int32) &&& 0x3f).toInt64.toUInt64).toInt64 := ⟨_, rfl⟩
  have n35 : -9223372036854775808 ≤ v35.toInt ∧ v35.toInt < 9223372036854775808 := by rw [e35]; exact rng64 _
  refine w_lushr X0 hx (dB d5_4) 5 rfl e35 ?_
  obtain ⟨v36, e36⟩ : ∃ z : Int64, z = a ^^^ v35 := ⟨_, rfl⟩
  have n36 : -9223372036854775808 ≤ v36.toInt ∧ v36.toInt < 9223372036854775808 := by rw [e36]; exact rng64 _
  refine w_lxor X0 hx (dB d5_5) 6 rfl e36 ?_
  refine w_lloadN X0 hx a (dB d5_6) 7 rfl rfl ?_
  refine w_bipush X0 hx (dB d5_7) 9 rfl (62 : Int32) (by decide) ?_
  obtain ⟨v37, e37⟩ : ∃ z : Int64, z = (a.toUInt64 >>> ((62 : Int32) &&& 0x3f).toInt64.toUInt64).toInt64 := ⟨_, rfl⟩
  have n37 : -9223372036854775808 ≤ v37.toInt ∧ v37.toInt < 9223372036854775808 := by rw [e37]; exact rng64 _
  refine w_lushr X0 hx (dB d5_9) 10 rfl e37 ?_
  obtain ⟨v38, e38⟩ : ∃ z : Int64, z = v36 ^^^ v37 := ⟨_, rfl⟩
  have n38 : -9223372036854775808 ≤ v38.toInt ∧ v38.toInt < 9223372036854775808 := by rw [e38]; exact rng64 _
  refine w_lxor X0 hx (dB d5_10) 11 rfl e38 ?_
  refine w_lstoreN X0 hx (dB d5_11) 12 rfl #[.val (.long a), .second, .val (.long v38), .second] rfl ?_
  refine w_lloadN X0 hx v38 (dB d5_12) 13 rfl rfl ?_
  refine w_ldc2 X0 hx hZ hown (tw_25 hw) (dB d5_13) 16 rfl ?_
  refine w_callS X0 hx hZ hown e0 (rm4 l Z a0 hw [] (-7723592293110705685 : Int64) h0 n0 Z0 ) (tw_20 hw) (tw_21 hw) (tw_22 hw) (tw_23 hw) (by decide) (by rw [hml]; rfl) [(.long (-7723592293110705685 : Int64))] [(.long v38)] (lenOf pd_0 rfl) rfl rfl (by decide) 2 rfl (by decide) (by decide) (by decide) (dB d5_16) 19 rfl (fun r39 T39 L39 X39 q39 => ?_)
  obtain ⟨z39, rfl, f39, Nq39, eq39⟩ := q39
  have N39 := Fr.app N0 Nq39
  try simp only [show ((-7723592293110705685 : Int64)).toInt = (-7723592293110705685) from by decide] at f39
  dsimp only [Option.toList_some, Option.toList_none, List.cons_append, List.nil_append]
  obtain ⟨v40, e40⟩ : ∃ z : Int64, z = v38 * z39 := ⟨_, rfl⟩
  have n40 : -9223372036854775808 ≤ v40.toInt ∧ v40.toInt < 9223372036854775808 := by rw [e40]; exact rng64 _
  refine w_lmul X39 hx (dB d5_19) 20 rfl e40 ?_
  refine w_lstoreN X39 hx (dB d5_20) 21 rfl #[.val (.long a), .second, .val (.long v40), .second] rfl ?_
  refine w_lloadN X39 hx v40 (dB d5_21) 22 rfl rfl ?_
  refine w_lloadN X39 hx v40 (dB d5_22) 23 rfl rfl ?_
  refine w_bipush X39 hx (dB d5_23) 25 rfl (27 : Int32) (by decide) ?_
  obtain ⟨v41, e41⟩ : ∃ z : Int64, z = (v40.toUInt64 >>> ((27 : Int32) &&& 0x3f).toInt64.toUInt64).toInt64 := ⟨_, rfl⟩
  have n41 : -9223372036854775808 ≤ v41.toInt ∧ v41.toInt < 9223372036854775808 := by rw [e41]; exact rng64 _
  refine w_lushr X39 hx (dB d5_25) 26 rfl e41 ?_
  obtain ⟨v42, e42⟩ : ∃ z : Int64, z = v40 ^^^ v41 := ⟨_, rfl⟩
  have n42 : -9223372036854775808 ≤ v42.toInt ∧ v42.toInt < 9223372036854775808 := by rw [e42]; exact rng64 _
  refine w_lxor X39 hx (dB d5_26) 27 rfl e42 ?_
  refine w_lloadN X39 hx v40 (dB d5_27) 28 rfl rfl ?_
  refine w_bipush X39 hx (dB d5_28) 30 rfl (54 : Int32) (by decide) ?_
  obtain ⟨v43, e43⟩ : ∃ z : Int64, z = (v40.toUInt64 >>> ((54 : Int32) &&& 0x3f).toInt64.toUInt64).toInt64 := ⟨_, rfl⟩
  have n43 : -9223372036854775808 ≤ v43.toInt ∧ v43.toInt < 9223372036854775808 := by rw [e43]; exact rng64 _
  refine w_lushr X39 hx (dB d5_30) 31 rfl e43 ?_
  obtain ⟨v44, e44⟩ : ∃ z : Int64, z = v42 ^^^ v43 := ⟨_, rfl⟩
  have n44 : -9223372036854775808 ≤ v44.toInt ∧ v44.toInt < 9223372036854775808 := by rw [e44]; exact rng64 _
  refine w_lxor X39 hx (dB d5_31) 32 rfl e44 ?_
  refine w_lstoreN X39 hx (dB d5_32) 33 rfl #[.val (.long a), .second, .val (.long v44), .second] rfl ?_
  refine w_lloadN X39 hx v44 (dB d5_33) 34 rfl rfl ?_
  refine w_ldc2 X39 hx hZ hown (tw_19 hw) (dB d5_34) 37 rfl ?_
  refine w_callS X39 hx hZ hown eq39 (rm4 l Z a0 hw [] (-4658895280553007687 : Int64) h0 n0 Z0 ) (tw_20 hw) (tw_21 hw) (tw_22 hw) (tw_23 hw) (by decide) (by rw [hml]; rfl) [(.long (-4658895280553007687 : Int64))] [(.long v44)] (lenOf pd_0 rfl) rfl rfl (by decide) 2 rfl (by decide) (by decide) (by decide) (dB d5_37) 40 rfl (fun r45 T45 L45 X45 q45 => ?_)
  obtain ⟨z45, rfl, f45, Nq45, eq45⟩ := q45
  have N45 := Fr.app N39 Nq45
  try simp only [show ((-4658895280553007687 : Int64)).toInt = (-4658895280553007687) from by decide] at f45
  dsimp only [Option.toList_some, Option.toList_none, List.cons_append, List.nil_append]
  obtain ⟨v46, e46⟩ : ∃ z : Int64, z = v44 * z45 := ⟨_, rfl⟩
  have n46 : -9223372036854775808 ≤ v46.toInt ∧ v46.toInt < 9223372036854775808 := by rw [e46]; exact rng64 _
  refine w_lmul X45 hx (dB d5_40) 41 rfl e46 ?_
  refine w_lstoreN X45 hx (dB d5_41) 42 rfl #[.val (.long a), .second, .val (.long v46), .second] rfl ?_
  refine w_lloadN X45 hx v46 (dB d5_42) 43 rfl rfl ?_
  refine w_lloadN X45 hx v46 (dB d5_43) 44 rfl rfl ?_
  refine w_bipush X45 hx (dB d5_44) 46 rfl (30 : Int32) (by decide) ?_
  obtain ⟨v47, e47⟩ : ∃ z : Int64, z = (v46.toUInt64 >>> ((30 : Int32) &&& 0x3f).toInt64.toUInt64).toInt64 := ⟨_, rfl⟩
  have n47 : -9223372036854775808 ≤ v47.toInt ∧ v47.toInt < 9223372036854775808 := by rw [e47]; exact rng64 _
  refine w_lushr X45 hx (dB d5_46) 47 rfl e47 ?_
  obtain ⟨v48, e48⟩ : ∃ z : Int64, z = v46 ^^^ v47 := ⟨_, rfl⟩
  have n48 : -9223372036854775808 ≤ v48.toInt ∧ v48.toInt < 9223372036854775808 := by rw [e48]; exact rng64 _
  refine w_lxor X45 hx (dB d5_47) 48 rfl e48 ?_
  refine w_lloadN X45 hx v46 (dB d5_48) 49 rfl rfl ?_
  refine w_bipush X45 hx (dB d5_49) 51 rfl (60 : Int32) (by decide) ?_
  obtain ⟨v49, e49⟩ : ∃ z : Int64, z = (v46.toUInt64 >>> ((60 : Int32) &&& 0x3f).toInt64.toUInt64).toInt64 := ⟨_, rfl⟩
  have n49 : -9223372036854775808 ≤ v49.toInt ∧ v49.toInt < 9223372036854775808 := by rw [e49]; exact rng64 _
  refine w_lushr X45 hx (dB d5_51) 52 rfl e49 ?_
  obtain ⟨v50, e50⟩ : ∃ z : Int64, z = v48 ^^^ v49 := ⟨_, rfl⟩
  have n50 : -9223372036854775808 ≤ v50.toInt ∧ v50.toInt < 9223372036854775808 := by rw [e50]; exact rng64 _
  refine w_lxor X45 hx (dB d5_52) 53 rfl e50 ?_
  refine w_lstoreN X45 hx (dB d5_53) 54 rfl #[.val (.long a), .second, .val (.long v50), .second] rfl ?_
  refine w_lloadN X45 hx v50 (dB d5_54) 55 rfl rfl ?_
  refine w_retL X45 hx hlk hret (dB d5_55) (by decide) (by decide) ?_
  rw [eq45]
  exact ⟨v50, rfl, by simp only [own_unmix, own_shr, e35, e36, e37, e38, f39, e40, e41, e42, e43, e44, f45, e46, e47, e48, e49, e50], N45, rfl⟩
theorem ef_0 (m : MethodId) (x0 : Int64) : entryFrame m #[(.long x0)] maxLocals = mkF m 0 #[.val (.long x0), .second, .unset, .unset, .unset, .unset, .unset, .unset] [] := by first | (simp [entryFrame, mkF, argsToLocals, Value.category, maxLocals]; done) | rfl
def Q0 (Z : State) (sd : Int64) (h0 : Heap) (n0 : Nat) (v : Option Value) (h : Heap) (L : List Loc) : Prop := v = some (.int 1) ∧ Fr n0 L
set_option maxRecDepth 65536 in
set_option maxHeartbeats 40000000 in
theorem rm0 (l : Launch) (Z : State) (a0 : Array Value) (hw : ∀ d ∈ tables_1, d.before a0 Z = true) (ws : List Jvm.Cond) (sd : Int64) (h0 : Heap) (n0 : Nat) (Z0 : n0 ≤ h0.size) :
    MetFree l x (head1 (Jvm.Cond.code x code maxLocals ret :: ws) room_1) (fun as_ U => as_ = #[(.long sd)] ∧ Z.Warmed39 U.vm ∧ U.heap = h0) (fun _ _ _ _ _ => True) (fun _ U o U' => ∃ v L, o = .returned v ∧ Q0 Z sd h0 n0 v U'.heap L ∧ FrameEnd U o U' L 1 1) := by
  refine body_of (plainFor_of_name pn_1) ?_
  intro p e s m below meth c s₁ hx dB hret hlk hml hown0 hnm X0 e0 hZ
  have hown : s.vm.findClass cN_1 = some m.cls := hown0
  have N0 := Fr.nil n0
  rw [ef_0]
  show Wk p e below (FN s (Q0 Z sd h0 n0) 1 1) s₁ (mkF m 0 #[.val (.long sd), .second, .unset, .unset, .unset, .unset, .unset, .unset] [])
  have r_sd := rng64 sd
  refine w_new X0 hx hZ hown e0 (tw_0 hw) (tw_1 hw) (tw_2 hw) (by decide) (by decide) (dB at_0) 3 rfl (fun T51 h51 a51 X51 e51 g51 E51 A51 D51 => ?_)
  have g_a51 : n0 ≤ a51 := Nat.le_trans Z0 (Nat.le_of_eq g51.symm)
  have s_a51 : h0.size ≤ a51 := Nat.le_trans (Keep.refl h0 []).1 (Nat.le_of_eq g51.symm)
  have Z51 : n0 ≤ h51.size := Nat.le_trans Z0 E51.1
  have K51 : Keep h0 h51 [] := (Keep.refl h0 []).ext E51
  have F52 : Fld Z h51 a51 cN_0 "state" "J" (.long (0 : Int64)) := D51 (Or.inl (tw_10 hw)) (ty := .long) (by decide)
  refine w_dup X51 hx (dB at_3) 4 rfl rfl ?_
  refine w_lloadN X51 hx sd (dB at_4) 5 rfl rfl ?_
  refine w_init X51 hx hZ rfl hown e51 (rm1 l Z a0 hw [] a51 sd h51 n0 Z51 A51 F52 g_a51) (tw_3 hw) (tw_4 hw) (tw_2 hw) (tw_5 hw) (by decide) (by rw [hml]; rfl) a51 [(.long sd)] [(.ref a51)] (lenOf pd_1 rfl) rfl rfl (by decide) 1 rfl (by decide) (by decide) (by decide) (dB at_5) 8 rfl (fun r53 T53 L53 X53 q53 => ?_)
  obtain ⟨rfl, Nq53, Kq53, G53_0⟩ := q53
  have N53 := Fr.app N0 Nq53
  have F54 : Exa Z T53.heap a51 cN_0 := A51.keep Kq53
  have Z53 : n0 ≤ T53.heap.size := Nat.le_trans Z51 Kq53.1
  have K53 : Keep h0 T53.heap [] := K51.trans Kq53 (allS (Or.inr s_a51) all0)
  dsimp only [Option.toList_some, Option.toList_none, List.cons_append, List.nil_append]
  refine w_astoreN X53 hx (dB at_8) 9 rfl rfl #[.val (.long sd), .second, .val (.ref a51), .unset, .unset, .unset, .unset, .unset] rfl ?_
  refine w_aloadN X53 hx (.ref a51) (dB at_9) 10 rfl rfl rfl ?_
  refine w_virt X53 hx hZ hown rfl (rm3 l Z a0 hw [] a51 sd T53.heap n0 Z53 F54 G53_0 g_a51) (tw_11 hw) (tw_12 hw) (notFace_of_selects (args := #[]) (mvT hZ (tw_14 hw))) (tw_14 hw) (tw_13 hw) (tw_2 hw) (tw_15 hw) (by decide) a51 F54 (by rw [hml]; rfl) [] [] (lenOf pd_2 rfl) rfl rfl (by decide) 0 rfl (by decide) (by decide) (by decide) (dB at_10) 13 rfl (fun r55 T55 L55 X55 q55 => ?_)
  obtain ⟨y55, rz55, rfl, fx55, Nq55, Kq55, G55_0⟩ := q55
  have N55 := Fr.app N53 Nq55
  have F56 : Exa Z T55.heap a51 cN_0 := F54.keep Kq55
  have Z55 : n0 ≤ T55.heap.size := Nat.le_trans Z53 Kq55.1
  have K55 : Keep h0 T55.heap [] := K53.trans Kq55 (allS (Or.inr s_a51) all0)
  dsimp only [Option.toList_some, Option.toList_none, List.cons_append, List.nil_append]
  refine w_lstoreN X55 hx (dB at_13) 14 rfl #[.val (.long sd), .second, .val (.ref a51), .val (.long rz55), .second, .unset, .unset, .unset] rfl ?_
  refine w_aloadN X55 hx (.ref a51) (dB at_14) 15 rfl rfl rfl ?_
  refine w_virt X55 hx hZ hown rfl (rm3 l Z a0 hw [] a51 y55 T55.heap n0 Z55 F56 G55_0 g_a51) (tw_11 hw) (tw_12 hw) (notFace_of_selects (args := #[]) (mvT hZ (tw_14 hw))) (tw_14 hw) (tw_13 hw) (tw_2 hw) (tw_15 hw) (by decide) a51 F56 (by rw [hml]; rfl) [] [] (lenOf pd_2 rfl) rfl rfl (by decide) 0 rfl (by decide) (by decide) (by decide) (dB at_15) 18 rfl (fun r57 T57 L57 X57 q57 => ?_)
  obtain ⟨y57, rz57, rfl, fx57, Nq57, Kq57, G57_0⟩ := q57
  have N57 := Fr.app N55 Nq57
  have F58 : Exa Z T57.heap a51 cN_0 := F56.keep Kq57
  have Z57 : n0 ≤ T57.heap.size := Nat.le_trans Z55 Kq57.1
  have K57 : Keep h0 T57.heap [] := K55.trans Kq57 (allS (Or.inr s_a51) all0)
  dsimp only [Option.toList_some, Option.toList_none, List.cons_append, List.nil_append]
  refine w_lstore X57 hx (dB at_18) 20 rfl #[.val (.long sd), .second, .val (.ref a51), .val (.long rz55), .second, .val (.long rz57), .second, .unset] rfl ?_
  refine w_ldc2 X57 hx hZ hown (tw_19 hw) (dB at_20) 23 rfl ?_
  refine w_callS X57 hx hZ hown rfl (rm4 l Z a0 hw [] (-4658895280553007687 : Int64) T57.heap n0 Z57 ) (tw_20 hw) (tw_21 hw) (tw_22 hw) (tw_23 hw) (by decide) (by rw [hml]; rfl) [(.long (-4658895280553007687 : Int64))] [] (lenOf pd_0 rfl) rfl rfl (by decide) 0 rfl (by decide) (by decide) (by decide) (dB at_23) 26 rfl (fun r59 T59 L59 X59 q59 => ?_)
  obtain ⟨z59, rfl, f59, Nq59, eq59⟩ := q59
  have N59 := Fr.app N57 Nq59
  try simp only [show ((-4658895280553007687 : Int64)).toInt = (-4658895280553007687) from by decide] at f59
  dsimp only [Option.toList_some, Option.toList_none, List.cons_append, List.nil_append]
  refine w_ldc2 X59 hx hZ hown (tw_19 hw) (dB at_26) 29 rfl ?_
  obtain ⟨v60, e60⟩ : ∃ z : Int64, z = z59 * (-4658895280553007687 : Int64) := ⟨_, rfl⟩
  have n60 : -9223372036854775808 ≤ v60.toInt ∧ v60.toInt < 9223372036854775808 := by rw [e60]; exact rng64 _
  have k60 : v60.toInt = 1 := by
    have k1 : v60 = 1 := by
      rw [e60, f59]; decide +kernel
    rw [k1]; decide
  refine w_lmul X59 hx (dB at_29) 30 rfl e60 ?_
  refine w_lconst X59 hx (dB at_30) 31 rfl (1 : Int64) (by decide) ?_
  obtain ⟨v61, e61⟩ : ∃ z : Int32, z = lcmpW v60 (1 : Int64) := ⟨_, rfl⟩
  have n61 : (v61.toInt = -1 ∧ v60.toInt < 1) ∨ (v61.toInt = 0 ∧ v60.toInt = 1) ∨ (v61.toInt = 1 ∧ 1 < v60.toInt) := by rw [e61]; exact lcmpC _ _ rfl (by decide)
  refine w_lcmp X59 hx (dB at_31) 32 rfl e61 ?_
  refine w_if_ne X59 hx v61.toInt rfl (dB at_32) 54 35 (fun c62 => ?_) (fun c62 => ?_)
  ·exfalso; omega
  ·refine w_ldc2 X59 hx hZ hown (tw_25 hw) (dB at_35) 38 rfl ?_
   refine w_callS X59 hx hZ hown eq59 (rm4 l Z a0 hw [] (-7723592293110705685 : Int64) T57.heap n0 Z57 ) (tw_20 hw) (tw_21 hw) (tw_22 hw) (tw_23 hw) (by decide) (by rw [hml]; rfl) [(.long (-7723592293110705685 : Int64))] [] (lenOf pd_0 rfl) rfl rfl (by decide) 0 rfl (by decide) (by decide) (by decide) (dB at_38) 41 rfl (fun r63 T63 L63 X63 q63 => ?_)
   obtain ⟨z63, rfl, f63, Nq63, eq63⟩ := q63
   have N63 := Fr.app N59 Nq63
   try simp only [show ((-7723592293110705685 : Int64)).toInt = (-7723592293110705685) from by decide] at f63
   dsimp only [Option.toList_some, Option.toList_none, List.cons_append, List.nil_append]
   refine w_ldc2 X63 hx hZ hown (tw_25 hw) (dB at_41) 44 rfl ?_
   obtain ⟨v64, e64⟩ : ∃ z : Int64, z = z63 * (-7723592293110705685 : Int64) := ⟨_, rfl⟩
   have n64 : -9223372036854775808 ≤ v64.toInt ∧ v64.toInt < 9223372036854775808 := by rw [e64]; exact rng64 _
   have k64 : v64.toInt = 1 := by
     have k1 : v64 = 1 := by
       rw [e64, f63]; decide +kernel
     rw [k1]; decide
   refine w_lmul X63 hx (dB at_44) 45 rfl e64 ?_
   refine w_lconst X63 hx (dB at_45) 46 rfl (1 : Int64) (by decide) ?_
   obtain ⟨v65, e65⟩ : ∃ z : Int32, z = lcmpW v64 (1 : Int64) := ⟨_, rfl⟩
   have n65 : (v65.toInt = -1 ∧ v64.toInt < 1) ∨ (v65.toInt = 0 ∧ v64.toInt = 1) ∨ (v65.toInt = 1 ∧ 1 < v64.toInt) := by rw [e65]; exact lcmpC _ _ rfl (by decide)
   refine w_lcmp X63 hx (dB at_46) 47 rfl e65 ?_
   refine w_if_ne X63 hx v65.toInt rfl (dB at_47) 54 50 (fun c66 => ?_) (fun c66 => ?_)
   ·exfalso; omega
   ·refine w_iconst X63 hx (dB at_50) 51 rfl (1 : Int32) (by decide) ?_
    refine w_goto X63 hx (dB at_51) 55 ?_
    refine w_istore X63 hx (dB at_55) 57 rfl #[.val (.long sd), .second, .val (.ref a51), .val (.long rz55), .second, .val (.long rz57), .second, .val (.int (1 : Int32))] rfl ?_
    refine w_iload X63 hx (1 : Int32) (dB at_57) 59 rfl rfl ?_
    refine w_if_eq X63 hx 1 (by decide) (dB at_59) 97 62 (fun c67 => ?_) (fun c67 => ?_)
    ·exfalso; omega
    ·refine w_lloadN X63 hx rz55 (dB at_62) 63 rfl rfl ?_
     refine w_callS X63 hx hZ hown eq63 (rm5 l Z a0 hw [] rz55 T57.heap n0 Z57 ) (tw_26 hw) (tw_27 hw) (tw_22 hw) (tw_28 hw) (by decide) (by rw [hml]; rfl) [(.long rz55)] [] (lenOf pd_0 rfl) rfl rfl (by decide) 0 rfl (by decide) (by decide) (by decide) (dB at_63) 66 rfl (fun r68 T68 L68 X68 q68 => ?_)
     obtain ⟨z68, rfl, f68, Nq68, eq68⟩ := q68
     have N68 := Fr.app N63 Nq68
     dsimp only [Option.toList_some, Option.toList_none, List.cons_append, List.nil_append]
     refine w_lloadN X68 hx sd (dB at_66) 67 rfl rfl ?_
     refine w_ldc2 X68 hx hZ hown (tw_29 hw) (dB at_67) 70 rfl ?_
     obtain ⟨v69, e69⟩ : ∃ z : Int64, z = sd + (-7046029254386353131 : Int64) := ⟨_, rfl⟩
     have n69 : (v69.toInt - (sd.toInt + (-7046029254386353131))) % 18446744073709551616 = 0 := by rw [e69]; exact laddM rfl (by decide)
     have n69b : -9223372036854775808 ≤ v69.toInt ∧ v69.toInt < 9223372036854775808 := by rw [e69]; exact rng64 _
     have k69 : z68.toInt = v69.toInt := by
       have k1 : z68 = v69 := by simp only [own_law, fx55, fx57, f59, e60, e61, f63, e64, e65, f68, e69]
       rw [k1]
     refine w_ladd X68 hx (dB at_70) 71 rfl e69 ?_
     obtain ⟨v70, e70⟩ : ∃ z : Int32, z = lcmpW z68 v69 := ⟨_, rfl⟩
     have n70 : (v70.toInt = -1 ∧ z68.toInt < v69.toInt) ∨ (v70.toInt = 0 ∧ z68.toInt = v69.toInt) ∨ (v70.toInt = 1 ∧ v69.toInt < z68.toInt) := by rw [e70]; exact lcmpC _ _ rfl rfl
     refine w_lcmp X68 hx (dB at_71) 72 rfl e70 ?_
     refine w_if_ne X68 hx v70.toInt rfl (dB at_72) 97 75 (fun c71 => ?_) (fun c71 => ?_)
     ·exfalso; omega
     ·refine w_lload X68 hx rz57 (dB at_75) 77 rfl rfl ?_
      refine w_callS X68 hx hZ hown eq68 (rm5 l Z a0 hw [] rz57 T57.heap n0 Z57 ) (tw_26 hw) (tw_27 hw) (tw_22 hw) (tw_28 hw) (by decide) (by rw [hml]; rfl) [(.long rz57)] [] (lenOf pd_0 rfl) rfl rfl (by decide) 0 rfl (by decide) (by decide) (by decide) (dB at_77) 80 rfl (fun r72 T72 L72 X72 q72 => ?_)
      obtain ⟨z72, rfl, f72, Nq72, eq72⟩ := q72
      have N72 := Fr.app N68 Nq72
      dsimp only [Option.toList_some, Option.toList_none, List.cons_append, List.nil_append]
      refine w_lloadN X72 hx sd (dB at_80) 81 rfl rfl ?_
      refine w_ldc2 X72 hx hZ hown (tw_29 hw) (dB at_81) 84 rfl ?_
      obtain ⟨v73, e73⟩ : ∃ z : Int64, z = sd + (-7046029254386353131 : Int64) := ⟨_, rfl⟩
      have n73 : (v73.toInt - (sd.toInt + (-7046029254386353131))) % 18446744073709551616 = 0 := by rw [e73]; exact laddM rfl (by decide)
      have n73b : -9223372036854775808 ≤ v73.toInt ∧ v73.toInt < 9223372036854775808 := by rw [e73]; exact rng64 _
      refine w_ladd X72 hx (dB at_84) 85 rfl e73 ?_
      refine w_ldc2 X72 hx hZ hown (tw_29 hw) (dB at_85) 88 rfl ?_
      obtain ⟨v74, e74⟩ : ∃ z : Int64, z = v73 + (-7046029254386353131 : Int64) := ⟨_, rfl⟩
      have n74 : (v74.toInt - (v73.toInt + (-7046029254386353131))) % 18446744073709551616 = 0 := by rw [e74]; exact laddM rfl (by decide)
      have n74b : -9223372036854775808 ≤ v74.toInt ∧ v74.toInt < 9223372036854775808 := by rw [e74]; exact rng64 _
      have k74 : z72.toInt = v74.toInt := by
        have k1 : z72 = v74 := by simp only [own_law, fx55, fx57, f59, e60, e61, f63, e64, e65, f68, e69, e70, f72, e73, e74]
        rw [k1]
      refine w_ladd X72 hx (dB at_88) 89 rfl e74 ?_
      obtain ⟨v75, e75⟩ : ∃ z : Int32, z = lcmpW z72 v74 := ⟨_, rfl⟩
      have n75 : (v75.toInt = -1 ∧ z72.toInt < v74.toInt) ∨ (v75.toInt = 0 ∧ z72.toInt = v74.toInt) ∨ (v75.toInt = 1 ∧ v74.toInt < z72.toInt) := by rw [e75]; exact lcmpC _ _ rfl rfl
      refine w_lcmp X72 hx (dB at_89) 90 rfl e75 ?_
      refine w_if_ne X72 hx v75.toInt rfl (dB at_90) 97 93 (fun c76 => ?_) (fun c76 => ?_)
      ·exfalso; omega
      ·refine w_iconst X72 hx (dB at_93) 94 rfl (1 : Int32) (by decide) ?_
       refine w_goto X72 hx (dB at_94) 98 ?_
       refine w_retN X72 hx hlk (t := .boolean) hret (by simp) (dB at_98) (by decide) (by decide) ?_
       rw [eq72]
       exact ⟨rfl, N72⟩
set_option maxRecDepth 65536 in
set_option maxHeartbeats 40000000 in
theorem comes_1 {Post : Tables → Env → Array Value → State → Outcome → State → Prop} (hpost : ∀ tb e args s v u, (limb_1_1.after args s (.returned v) u = true ∧ limb_1_2.after args s (.returned v) u = true ∧ True) → FrameEnd s (.returned v) u (Jvm.fieldLocs frame_1_writes args s ++ Jvm.arrayLocs frame_1_arrays args s ++ Jvm.staticLocs frame_1_statics s) 16 128 → Post tb e args s (.returned v) u) :
    ArmFor flags0 classFile x code maxLocals ret World_1 tables_1 room_1 Calls_1 rest_1 Pre_1 Post := by
  intro l hfl _ _ p e ha hc hk s m args below hf hA hF happ hP
  obtain ⟨hcalls, hrest, hpre⟩ := hP
  obtain ⟨-, -, -, hnamed, -, -, -, hat⟩ := (Spec.applies_iff hf).mp happ
  obtain ⟨hg, hn⟩ := and_e (Cond.before_iff.mp (show (Jvm.Cond.and given_1 narrow_1).before args s = true from hpre))
  obtain ⟨gg1, gg2⟩ := and_e hg
  obtain ⟨w0, rfl⟩ : ∃ w0 : Value, args = #[w0] := by
    have hs : args.size = 1 := by simpa [Cond.value, given_1] using gg1
    obtain ⟨L⟩ := args
    match L, hs with
    | [w0], _ => exact ⟨w0, rfl⟩
  have hw := fun d (hd : d ∈ tables_1) => atoms_spec (ws := Jvm.Cond.code x code maxLocals ret :: tables_1) hat d (List.mem_cons_of_mem _ hd)
  have hfit : Fit s := fun {y c} hc i hi => by
    obtain ⟨ha, rfl⟩ := Array.getElem?_eq_some_iff.mp hc
    have q := List.all_eq_true.mp ((Array.all_eq_true_iff_forall_mem.mp hF) _ (Array.getElem_mem ha)) i (List.mem_range.mpr hi)
    simpa [Array.getElem?_eq_getElem hi] using q
  obtain ⟨i0, ei0⟩ := isL_v gg2
  obtain rfl : w0 = (.long i0) := Option.some.inj ei0
  obtain ⟨n, o, h1, h2, h3, _, L, rfl, ⟨rfl, N⟩, hq⟩ := rm0 l s _ hw tables_1 i0 s.heap s.heap.size (Nat.le_refl _) p e ha hc hk s m _ below hf ((Spec.applies_iff_loose hf).mp happ).1 ⟨rfl, State.Warmed39.refl s, rfl⟩ trivial
  refine ⟨n, _, h1, h2, h3, hpost _ _ _ _ _ _ ⟨Cond.after_iff.mpr rfl, Cond.after_iff.mpr (eq_i res_at (Term.int_eval (1)) rfl), trivial⟩ ⟨hq.1, hq.2.1, (hq.2.2.sift fun y hy => Or.inr (N y hy)).mono (by decide) (by decide)⟩⟩
theorem main_1_1 : Claimed_1_1 := comes_1 fun _ _ _ _ _ _ h hF => ⟨h.1, hF⟩
theorem main_1_2 : Claimed_1_2 := comes_1 fun _ _ _ _ _ _ h hF => ⟨h.2.1, hF⟩
end Jvm.Pilot.@@N@@
namespace Jvm.Pilot.@@N@@
open Jvm Jvm.ClassFile Sem Op Lib Jvm.Free Jvm.Stand Jvm.Pilot.@@N@@.Jvm.D
/-! MADE BY PROGRAM (witnessworld.py) out of the Statement's table words and the real class files: 9 classes; the members and pool entries that the words name. The judged class is class 1, her method 3. -/
namespace start1
open Jvm.ClassFile
def u (s : String) : CpInfo := .utf8 (stringToUtf16 s)
/-- a pool by its gaps: so many unusable entries, then the entry; so many at the end -/
def gap : Nat → List CpInfo → List CpInfo
  | 0, r => r
  | n + 1, r => .unusable :: gap n r
def poolList (es : List (Nat × CpInfo)) (last : Nat) : List CpInfo := es.foldr (fun e r => gap e.1 (e.2 :: r)) (gap last [])
def pool (es : List (Nat × CpInfo)) (last : Nat) : Array CpInfo := ⟨poolList es last⟩
def fileOf (pool : Array CpInfo) (this : Nat) (attrs : Array Attribute := #[]) (ms : Array MethodInfo := #[]) (fl : Nat := 33) (sup : Nat := 0) (ifs : Array Nat := #[]) (fds : Array FieldInfo := #[]) : ClassFile where
  minorVersion := 0
  majorVersion := 65
  constantPool := pool
  accessFlags := fl
  thisClass := this
  superClass := sup
  interfaces := ifs
  fields := fds
  methods := ms
  attributes := attrs
def plain (name : String) (sup : Option ClassId) : Class where
  name := name
  kind := .ordinary
  loader := none
  accessFlags := 33
  super := sup
  interfaces := #[]
  cf := none
  fields := #[]
  methods := #[]
  instanceTypes := #[]
  staticTypes := #[]
  resolved := #[]
  callSites := []
  init := .initialized
  statics := none
  mirror := none

def pool0 : Array CpInfo := pool [(5, u "<init>"), (0, u "()V"), (1, .class_ 10), (1, u "java/lang/Object")] 113

def k0c0 : Code := { maxStack := 0, maxLocals := 1, code := object_method_1_code, exceptionTable := #[], attributes := #[] }
def k0m0 : Method := { name := "<init>", desc := "()V", sig := { parameters := [], returnType := none }, accessFlags := 1, code := some k0c0 }
/-- java/lang/Object -/
def k0 : Class := { plain "java/lang/Object" none with
  accessFlags := 33
  interfaces := #[]
  cf := some (fileOf pool0 8 #[] #[{ accessFlags := 1, nameIndex := 5, descriptorIndex := 6, attributes := #[] }] 33 0 #[] #[])
  fields := #[]
  methods := #[k0m0]
  instanceTypes := #[]
  staticTypes := #[]
  resolved := Array.replicate 124 none
  statics := none }

def pool1 : Array CpInfo := pool [(2, .class_ 4), (1, u "java/lang/Object"), (0, u "<init>"), (0, u "()V"), (0, .long 2), (1, .class_ 10), (0, u "com/example/urd/urd/net/SeededRandomNextLongPinLaw"), (0, .long 10723151780598845931), (1, .methodref 9 14), (0, .nameAndType 15 16), (0, u "inverse"), (0, u "(J)J"), (0, .long 13787848793156543929), (1, .class_ 20), (0, u "com/example/urd/urd/net/SeededRandom"), (0, .methodref 19 22), (0, .nameAndType 5 23), (0, u "(J)V"), (0, .methodref 19 25), (0, .nameAndType 26 27), (0, u "nextLong"), (0, u "()J"), (0, .methodref 9 29), (0, .nameAndType 30 16), (0, u "unmix"), (0, .long 11400714819323198485), (1, u "STEP"), (0, u "J"), (1, u "M1"), (0, u "M2"), (2, u "law"), (0, u "(J)Z")] 3

def k1m0 : Method := { name := "<init>", desc := "()V", sig := { parameters := [], returnType := none }, accessFlags := 1, code := none }
def k1c1 : Code := { maxStack := 8, maxLocals := 4, code := method_2_code, exceptionTable := #[], attributes := #[] }
def k1m1 : Method := { name := "inverse", desc := "(J)J", sig := { parameters := [.long], returnType := some .long }, accessFlags := 10, code := some k1c1 }
def k1c2 : Code := { maxStack := 5, maxLocals := 4, code := method_3_code, exceptionTable := #[], attributes := #[] }
def k1m2 : Method := { name := "unmix", desc := "(J)J", sig := { parameters := [.long], returnType := some .long }, accessFlags := 10, code := some k1c2 }
def k1c3 : Code := { maxStack := 6, maxLocals := 8, code := code, exceptionTable := #[], attributes := #[] }
def k1m3 : Method := { name := "law", desc := "(J)Z", sig := { parameters := [.long], returnType := some .boolean }, accessFlags := 9, code := some k1c3 }
/-- com/example/urd/urd/net/SeededRandomNextLongPinLaw -/
def k1 : Class := { plain "com/example/urd/urd/net/SeededRandomNextLongPinLaw" (some 0) with
  accessFlags := 49
  interfaces := #[]
  cf := some (fileOf pool1 9 #[] #[{ accessFlags := 1, nameIndex := 5, descriptorIndex := 6, attributes := #[] }, { accessFlags := 10, nameIndex := 15, descriptorIndex := 16, attributes := #[] }, { accessFlags := 10, nameIndex := 30, descriptorIndex := 16, attributes := #[] }, { accessFlags := 9, nameIndex := 40, descriptorIndex := 41, attributes := #[] }] 49 2 #[] #[{ accessFlags := 26, nameIndex := 33, descriptorIndex := 34, attributes := #[] }, { accessFlags := 26, nameIndex := 36, descriptorIndex := 34, attributes := #[] }, { accessFlags := 26, nameIndex := 37, descriptorIndex := 34, attributes := #[] }])
  fields := #[{ name := "STEP", type := .long, accessFlags := 26, slot := 0, constantValue := 0 }, { name := "M1", type := .long, accessFlags := 26, slot := 1, constantValue := 0 }, { name := "M2", type := .long, accessFlags := 26, slot := 2, constantValue := 0 }]
  methods := #[k1m0, k1m1, k1m2, k1m3]
  instanceTypes := #[]
  staticTypes := #[.long, .long, .long]
  resolved := Array.replicate 45 none
  statics := none }

def pool2 : Array CpInfo := pool [(1, .methodref 2 3), (0, .class_ 4), (0, .nameAndType 5 6), (0, u "java/lang/Object"), (0, u "<init>"), (0, u "()V"), (0, .fieldref 8 9), (0, .class_ 10), (0, .nameAndType 11 12), (0, u "com/example/urd/urd/net/SeededRandom"), (0, u "state"), (0, u "J"), (0, .long 11400714819323198485), (1, .long 13787848793156543929), (1, .long 10723151780598845931), (12, u "nextLong"), (0, u "()J"), (23, u "STEP"), (1, u "(J)V")] 24

def k2c0 : Code := { maxStack := 3, maxLocals := 3, code := prog_44_method_1_code, exceptionTable := #[], attributes := #[] }
def k2m0 : Method := { name := "<init>", desc := "(J)V", sig := { parameters := [.long], returnType := none }, accessFlags := 1, code := some k2c0 }
def k2c1 : Code := { maxStack := 5, maxLocals := 3, code := prog_44_method_2_code, exceptionTable := #[], attributes := #[] }
def k2m1 : Method := { name := "nextLong", desc := "()J", sig := { parameters := [], returnType := some .long }, accessFlags := 1, code := some k2c1 }
/-- com/example/urd/urd/net/SeededRandom -/
def k2 : Class := { plain "com/example/urd/urd/net/SeededRandom" (some 0) with
  accessFlags := 33
  interfaces := #[]
  cf := some (fileOf pool2 8 #[] #[{ accessFlags := 1, nameIndex := 5, descriptorIndex := 57, attributes := #[] }, { accessFlags := 1, nameIndex := 30, descriptorIndex := 31, attributes := #[] }] 33 2 #[] #[{ accessFlags := 26, nameIndex := 55, descriptorIndex := 12, attributes := #[] }, { accessFlags := 2, nameIndex := 11, descriptorIndex := 12, attributes := #[] }])
  fields := #[{ name := "STEP", type := .long, accessFlags := 26, slot := 0, constantValue := 0 }, { name := "state", type := .long, accessFlags := 2, slot := 0, constantValue := 0 }]
  methods := #[k2m0, k2m1]
  instanceTypes := #[.long]
  staticTypes := #[.long]
  resolved := Array.replicate 82 none
  statics := none }

def pool3 : Array CpInfo := pool [(1, u "java/lang/Cloneable"), (0, .class_ 1), (0, u "java/lang/Object"), (0, .class_ 3)] 3

/-- java/lang/Cloneable -/
def k3 : Class := { plain "java/lang/Cloneable" (some 0) with
  accessFlags := 1537
  interfaces := #[]
  cf := some (fileOf pool3 2 #[] #[] 1537 4 #[] #[])
  fields := #[]
  methods := #[]
  instanceTypes := #[]
  staticTypes := #[]
  resolved := Array.replicate 8 none
  statics := none }

def pool4 : Array CpInfo := pool [(1, u "java/io/Serializable"), (0, .class_ 1), (0, u "java/lang/Object"), (0, .class_ 3)] 3

/-- java/io/Serializable -/
def k4 : Class := { plain "java/io/Serializable" (some 0) with
  accessFlags := 1537
  interfaces := #[]
  cf := some (fileOf pool4 2 #[] #[] 1537 4 #[] #[])
  fields := #[]
  methods := #[]
  instanceTypes := #[]
  staticTypes := #[]
  resolved := Array.replicate 8 none
  statics := none }

/-- the primitive byte -/
def k5 : Class := { plain "byte" none with kind := .primitive 'B', accessFlags := 0x411 }
/-- [B -/
def k6 : Class := { plain "[B" (some 0) with kind := .array 5 .byte, interfaces := #[3, 4], accessFlags := 1041 }

/-- the primitive int -/
def k7 : Class := { plain "int" none with kind := .primitive 'I', accessFlags := 0x411 }
/-- [I -/
def k8 : Class := { plain "[I" (some 0) with kind := .array 7 .int, interfaces := #[3, 4], accessFlags := 1041 }

def heap : Heap := #[]
def classes : Array Class := #[k0, k1, k2, k3, k4, k5, k6, k7, k8]
def interned : List (Array UInt16 × Addr) := []
def slotsUsed : Nat := 0
def theMethod : MethodId := ⟨1, 3⟩
def args0 : Array Value := #[.long 5]
def aboutOver (below : List Frame) : State where
  vm := { classes := classes, interned := interned.toArray }
  heap := heap
  slotsUsed := slotsUsed
  threads := #[{ frames := .invoking theMethod args0 :: below }]
def below0 : List Frame := [.native { method := ⟨0, 0⟩, args := #[] }]
def about1 : State := aboutOver below0
def p0 : Program := .bare "" "" ""
def e0 : Env := launch0.env 0 0 0
theorem w_frames : about1.frames = Frame.invoking theMethod args0 :: below0 := rfl
set_option maxRecDepth 65536 in
theorem w_args : argsFit about1.vm theMethod args0 = true := by decide +kernel
set_option maxRecDepth 65536 in
theorem w_heap : heapFits about1 = true := by decide +kernel
set_option maxRecDepth 65536 in
theorem w_runnable : about1.curStatus? = some .runnable := by decide +kernel
set_option maxRecDepth 65536 in
theorem w_alone : about1.alone = true := by decide +kernel
set_option maxRecDepth 65536 in
theorem w_named : about1.methodNamed? x = some theMethod := by decide +kernel
set_option maxRecDepth 65536 in
theorem w_hears : about1.hears theMethod below0 = true := by decide +kernel
set_option maxRecDepth 65536 in
theorem w_ripe : about1.ripe theMethod args0 below0 = true := by decide +kernel
theorem w_running : about1.status = .running := rfl
set_option maxRecDepth 65536 in
theorem w_room : about1.hasRoom e0.platform room_1 = true :=
  launch0.hasRoom_least _ room_1 (by decide +kernel) (by decide +kernel) (by decide +kernel) (by decide +kernel) (by decide +kernel) (by decide +kernel)
theorem allAtoms_all (ts : List Jvm.Cond) (a : Array Jvm.Value) (st : Jvm.State) : (allAtoms ts).before a st = ts.all (fun c => c.before a st) := by
  induction ts with
  | nil => rfl
  | cons c t ih =>
    show (Jvm.Cond.and c (allAtoms t)).before a st = _
    rw [Jvm.Cond.before_and, ih, List.all_cons]
def words1 : List Jvm.Cond := Jvm.Cond.code x code maxLocals ret :: tables_1
/-- a 'code' word, met by the world's own term for the bytes: nothing is compared byte by byte -/
theorem code_word {y : MethodName} {bytes : ByteArray} {mx : Nat} {rt : Option FieldType} {a : Array Value} {s : State} {m : MethodId} {meth : Method} {c : Code} (h1 : s.methodNamed? y = some m) (h2 : s.vm.method? m = some meth) (h3 : meth.code = some c) (h4 : c.code = bytes)
    (h5 : (c.maxLocals == mx && c.exceptionTable.isEmpty && decide (c.maxStack ≤ mostOperands) && decide (meth.sig.returnType = rt) && !meth.locks && decide (parseMethodDescriptor y.desc = some meth.sig)) = true) : (Jvm.Cond.code y bytes mx rt).before a s = true := by
  simp only [Bool.and_eq_true, beq_iff_eq, Bool.not_eq_true', decide_eq_true_eq] at h5
  obtain ⟨⟨⟨⟨⟨g1, g2⟩, g3⟩, g4⟩, g5⟩, g6⟩ := h5
  simp [Cond.before, Cond.holds, Cond.value, h1, h2, h3, h4, g1, g2, g3, g4, g5, g6]
def isCode : Jvm.Cond → Bool
  | .code _ _ _ _ => true
  | _ => false
theorem all_split {L : List Jvm.Cond} {P : Jvm.Cond → Bool} (h1 : L.all (fun c => isCode c || P c) = true) (h2 : ∀ c ∈ L.filter isCode, P c = true) : L.all P = true := by
  refine List.all_eq_true.mpr fun c hc => ?_
  have h := List.all_eq_true.mp h1 c hc
  rcases Bool.eq_false_or_eq_true (isCode c) with hi | hi
  · exact h2 c (List.mem_filter.mpr ⟨hc, hi⟩)
  · simpa [hi] using h
set_option maxRecDepth 65536 in
theorem w_c0 : (Jvm.Cond.code x code maxLocals ret).before args0 about1 = true := code_word (m := ⟨1, 3⟩) (meth := k1m3) (c := k1c3) (by decide +kernel) rfl rfl rfl (by decide +kernel)
set_option maxRecDepth 65536 in
theorem w_c1 : (Jvm.Cond.code ({ cls := "com/example/urd/urd/net/SeededRandom", name := "<init>", desc := "(J)V" } : Jvm.MethodName) prog_44_method_1_code (3 : Nat) (Option.none : Option Jvm.ClassFile.FieldType)).before args0 about1 = true := code_word (m := ⟨2, 0⟩) (meth := k2m0) (c := k2c0) (by decide +kernel) rfl rfl rfl (by decide +kernel)
set_option maxRecDepth 65536 in
theorem w_c2 : (Jvm.Cond.code ({ cls := "java/lang/Object", name := "<init>", desc := "()V" } : Jvm.MethodName) object_method_1_code (1 : Nat) (Option.none : Option Jvm.ClassFile.FieldType)).before args0 about1 = true := code_word (m := ⟨0, 0⟩) (meth := k0m0) (c := k0c0) (by decide +kernel) rfl rfl rfl (by decide +kernel)
set_option maxRecDepth 65536 in
theorem w_c3 : (Jvm.Cond.code ({ cls := "com/example/urd/urd/net/SeededRandom", name := "nextLong", desc := "()J" } : Jvm.MethodName) prog_44_method_2_code (3 : Nat) (Option.some Jvm.ClassFile.FieldType.long)).before args0 about1 = true := code_word (m := ⟨2, 1⟩) (meth := k2m1) (c := k2c1) (by decide +kernel) rfl rfl rfl (by decide +kernel)
set_option maxRecDepth 65536 in
theorem w_c4 : (Jvm.Cond.code ({ cls := "com/example/urd/urd/net/SeededRandomNextLongPinLaw", name := "inverse", desc := "(J)J" } : Jvm.MethodName) method_2_code (4 : Nat) (Option.some Jvm.ClassFile.FieldType.long)).before args0 about1 = true := code_word (m := ⟨1, 1⟩) (meth := k1m1) (c := k1c1) (by decide +kernel) rfl rfl rfl (by decide +kernel)
set_option maxRecDepth 65536 in
theorem w_c5 : (Jvm.Cond.code ({ cls := "com/example/urd/urd/net/SeededRandomNextLongPinLaw", name := "unmix", desc := "(J)J" } : Jvm.MethodName) method_3_code (4 : Nat) (Option.some Jvm.ClassFile.FieldType.long)).before args0 about1 = true := code_word (m := ⟨1, 2⟩) (meth := k1m2) (c := k1c2) (by decide +kernel) rfl rfl rfl (by decide +kernel)
def codes1 : List Jvm.Cond := [Jvm.Cond.code x code maxLocals ret, Jvm.Cond.code ({ cls := "com/example/urd/urd/net/SeededRandom", name := "<init>", desc := "(J)V" } : Jvm.MethodName) prog_44_method_1_code (3 : Nat) (Option.none : Option Jvm.ClassFile.FieldType), Jvm.Cond.code ({ cls := "java/lang/Object", name := "<init>", desc := "()V" } : Jvm.MethodName) object_method_1_code (1 : Nat) (Option.none : Option Jvm.ClassFile.FieldType), Jvm.Cond.code ({ cls := "com/example/urd/urd/net/SeededRandom", name := "nextLong", desc := "()J" } : Jvm.MethodName) prog_44_method_2_code (3 : Nat) (Option.some Jvm.ClassFile.FieldType.long), Jvm.Cond.code ({ cls := "com/example/urd/urd/net/SeededRandomNextLongPinLaw", name := "inverse", desc := "(J)J" } : Jvm.MethodName) method_2_code (4 : Nat) (Option.some Jvm.ClassFile.FieldType.long), Jvm.Cond.code ({ cls := "com/example/urd/urd/net/SeededRandomNextLongPinLaw", name := "unmix", desc := "(J)J" } : Jvm.MethodName) method_3_code (4 : Nat) (Option.some Jvm.ClassFile.FieldType.long)]
set_option maxRecDepth 65536 in
theorem codes_eq : words1.filter isCode = codes1 := rfl
theorem w_codes : ∀ c ∈ words1.filter isCode, c.before args0 about1 = true := by
  rw [codes_eq]
  intro c hc
  simp only [codes1, List.mem_cons, List.not_mem_nil, or_false] at hc
  rcases hc with rfl | rfl | rfl | rfl | rfl | rfl
  · exact w_c0
  · exact w_c1
  · exact w_c2
  · exact w_c3
  · exact w_c4
  · exact w_c5
set_option maxRecDepth 65536 in
theorem w_t1 : (words1.take 24).all (fun c => isCode c || c.before args0 about1) = true := by decide +kernel
set_option maxRecDepth 65536 in
theorem w_t2 : (words1.drop 24).all (fun c => isCode c || c.before args0 about1) = true := by decide +kernel
theorem w_tables : (allAtoms (Jvm.Cond.code x code maxLocals ret :: tables_1)).before args0 about1 = true := by
  rw [allAtoms_all]
  show words1.all (fun c => c.before args0 about1) = true
  refine all_split ?_ w_codes
  rw [← List.take_append_drop 24 words1, List.all_append, w_t1, w_t2]
  rfl
set_option maxRecDepth 65536 in
theorem w_case : (Jvm.Cond.and given_1 narrow_1).before args0 about1 = true := by decide +kernel
theorem w_applies : (headSpec (Jvm.Cond.code x code maxLocals ret :: tables_1) room_1).applies x e0.platform about1 = true :=
  (Spec.applies_iff w_frames).mpr ⟨w_running, w_runnable, w_alone, w_named, w_hears, w_ripe, w_room, w_tables⟩
theorem atStart : AtStart classFile x code maxLocals ret World_1 tables_1 room_1 Calls_1 rest_1 Pre_1 launch0 p0 e0 about1 theMethod args0 below0 :=
  ⟨lists_1, trivial, launch0.admits_env _ _ _, launch0.least_env, fairChoices_fair.cas, fairChoices_fair.clock, w_frames, w_args, w_heap, w_applies, trivial, trivial, w_case⟩
end start1
theorem witness_1 : WitnessClaimed_1 := ⟨start1.p0, start1.e0, start1.about1, start1.theMethod, start1.args0, start1.below0, start1.atStart⟩
end Jvm.Pilot.@@N@@
