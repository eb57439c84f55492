import JvmDerived
import JvmDerived.Pilot.@@N@@Statement
import JvmDerived.Pilot.@@N@@Code
set_option linter.unusedVariables false
set_option linter.unusedSimpArgs false
namespace Jvm.Pilot.@@N@@
open Jvm Jvm.ClassFile Sem Op Lib Jvm.Free Jvm.Stand Jvm.LawKit Jvm.RoadKit Bundle Jvm.Free.Fl Jvm.Pilot.@@N@@.Jvm.D
theorem own_hw {a0 : Array Value} {Z : State} (hw : ∀ d ∈ tables_1, d.before a0 Z = true) (i : Nat) {d : Jvm.Cond} (h : tables_1[i]? = some d) : d.before a0 Z = true := hw d (List.mem_of_getElem? h)
section OwnKit
variable {p : Program} {l : Launch} {e : Env} {R : Room} {s : State} {m : MethodId} {args : Array Value} {below : List Frame} {meth : Method} {c : Code} {T : State} {locs : List Loc} {cells slots : Nat}
/-- from the state t the run goes on to a return of which Q holds -/
def own_Go (p : Program) (e : Env) (below : List Frame) (Fe : Outcome → State → List Loc → Prop) (Q : Option Value → Heap → List Loc → Prop) (t : State) : Prop :=
  ∃ s₂ o, Steps p.tables e below t s₂ ∧ s₂.status = .running ∧ Ended s₂ below o ∧ ∃ v L, o = .returned v ∧ Q v s₂.heap L ∧ Fe o s₂ L
theorem own_st {Fe : Outcome → State → List Loc → Prop} {Q : Option Value → Heap → List Loc → Prop} {t t' : State} (h : ∀ target, Steps p.tables e below t' target → Steps p.tables e below t target) (k : own_Go p e below Fe Q t') : own_Go p e below Fe Q t := by
  obtain ⟨s₂, o, h1, r⟩ := k
  exact ⟨s₂, o, h _ h1, r⟩
theorem own_tr {Fe : Outcome → State → List Loc → Prop} {Q : Option Value → Heap → List Loc → Prop} {t t' : State} (h : Steps p.tables e below t t') (k : own_Go p e below Fe Q t') : own_Go p e below Fe Q t := own_st (fun _ q => h.trans q) k
theorem own_ret (X : Stand p l e R s m args below meth c T locs cells slots) {K N : Nat} {Q : Option Value → Heap → List Loc → Prop} {t : State} (v : Option Value) (hv : meth.sig.returnType = none → v = none) (hlocks : meth.locks = false) (hK : cells ≤ K) (hN : slots ≤ N) (hQ : Q v T.heap locs)
    (hs : ∀ fs : List Frame, (∀ (f : JFrame) (acts : List Action), f.method = m → f.locked = none → f.entered = [] → (doReturn e (T.setTop f) acts v).1 = T.setFrames fs) → Steps p.tables e below t (T.setFrames fs)) : own_Go p e below (fun o u L => FrameEnd s o u L K N) Q t := by
  obtain ⟨fs, hr, hrun, hended, hW, hsame⟩ := X.leave (v := v) hv
  exact ⟨_, _, hs fs hr, hrun, hended, _, _, rfl, hQ, ⟨_, rfl⟩, hW, hsame.mono hK hN⟩
theorem own_retI (X : Stand p l e R s m args below meth c T locs cells slots) (hx : p.tables.exec = Jvm.exec) {pc : Nat} {Ls : Array Slot} {z : Int32} {rest : List Value} (hret : meth.sig.returnType = some .int) (hd : decode c.code pc = .ok (.ireturn, 1)) {fs : List Frame}
    (hl : ∀ (f : JFrame) (acts : List Action), f.method = m → f.locked = none → f.entered = [] → (doReturn e (T.setTop f) acts (some (.int z))).1 = T.setFrames fs) : Steps p.tables e below (T.setTop (mkF m pc Ls (.int z :: rest))) (T.setFrames fs) :=
  retOut X hx hret rfl (Or.inl ⟨rfl, Or.inl rfl, _, rfl⟩) hd hl
theorem own_retD (X : Stand p l e R s m args below meth c T locs cells slots) (hx : p.tables.exec = Jvm.exec) {pc : Nat} {Ls : Array Slot} {z : UInt64} {rest : List Value} (hret : meth.sig.returnType = some .double) (hd : decode c.code pc = .ok (.dreturn, 1)) {fs : List Frame}
    (hl : ∀ (f : JFrame) (acts : List Action), f.method = m → f.locked = none → f.entered = [] → (doReturn e (T.setTop f) acts (some (.double z))).1 = T.setFrames fs) : Steps p.tables e below (T.setTop (mkF m pc Ls (.double z :: rest))) (T.setFrames fs) :=
  retOut X hx hret rfl (Or.inr (Or.inr (Or.inl ⟨rfl, rfl, _, rfl⟩))) hd hl
theorem own_retJ (X : Stand p l e R s m args below meth c T locs cells slots) (hx : p.tables.exec = Jvm.exec) {pc : Nat} {Ls : Array Slot} {z : Int64} {rest : List Value} (hret : meth.sig.returnType = some .long) (hd : decode c.code pc = .ok (.lreturn, 1)) {fs : List Frame}
    (hl : ∀ (f : JFrame) (acts : List Action), f.method = m → f.locked = none → f.entered = [] → (doReturn e (T.setTop f) acts (some (.long z))).1 = T.setFrames fs) : Steps p.tables e below (T.setTop (mkF m pc Ls (.long z :: rest))) (T.setFrames fs) :=
  retOut X hx hret rfl (Or.inr (Or.inl ⟨rfl, rfl, _, rfl⟩)) hd hl
theorem own_retR (X : Stand p l e R s m args below meth c T locs cells slots) (hx : p.tables.exec = Jvm.exec) {pc : Nat} {Ls : Array Slot} {w : Value} {rest : List Value} {t : FieldType} (hret : meth.sig.returnType = some t) (ht : t.isReference = true) (hw : w.isRef = true) (hd : decode c.code pc = .ok (.areturn, 1)) {fs : List Frame}
    (hl : ∀ (f : JFrame) (acts : List Action), f.method = m → f.locked = none → f.entered = [] → (doReturn e (T.setTop f) acts (some w)).1 = T.setFrames fs) : Steps p.tables e below (T.setTop (mkF m pc Ls (w :: rest))) (T.setFrames fs) :=
  retOut X hx hret (by cases t <;> first | (cases ht; done) | rfl) (Or.inr (Or.inr (Or.inr (Or.inr ⟨rfl, ht, hw⟩)))) hd hl
theorem own_staKeep {Z : State} {h h' : Heap} {C n d : String} {v : Value} {ws : List Addr} (F : Sta Z h C n d v) (K : Keep h h' ws) (hn : ∀ x ∈ ws, ∀ cell : Cell, h[x]? = some cell → cell.vm.isStatics = false) : Sta Z h' C n d v := by
  obtain ⟨cf, i, k, f, st, cell, h1, h2, h3, h4, h5, h6, h7⟩ := F
  exact ⟨cf, i, k, f, st, cell, h1, h2, h3, h4, K.2.1 st cell h5 (fun q => by have := hn st q cell h5; rw [h6] at this; cases this), h6, h7⟩
end OwnKit
section OwnSteps
variable {p : Program} {l : Launch} {e : Env} {R : Room} {s : State} {m : MethodId} {args : Array Value} {below : List Frame} {meth : Method} {c : Code} {T : State} {locs : List Loc} {cells slots : Nat} {Fe : Outcome → State → List Loc → Prop} {Q : Option Value → Heap → List Loc → Prop} {pc : Nat} {Ls : Array Slot} {st : List Value} {Z : State} {a0 : Array Value} {h : Heap}
theorem own_iload (X : Stand p l e R s m args below meth c T locs cells slots) (hx : p.tables.exec = Jvm.exec) {i : Nat} {v : Int32} (pc' : Nat) (hp : pc + 2 = pc') (hd : decode c.code pc = .ok (.iload i, 2)) (hl : Ls[i]? = some (.val (.int v))) (k : own_Go p e below Fe Q (T.setTop (mkF m pc' Ls (.int v :: st)))) : own_Go p e below Fe Q (T.setTop (mkF m pc Ls (st))) := by
  subst hp
  exact own_st (fun _ hr => XS.iload X.here hx rfl hd hl hr) k
theorem own_iloadN (X : Stand p l e R s m args below meth c T locs cells slots) (hx : p.tables.exec = Jvm.exec) {i : Fin 4} {v : Int32} (pc' : Nat) (hp : pc + 1 = pc') (hd : decode c.code pc = .ok (.iload_n i, 1)) (hl : Ls[i.val]? = some (.val (.int v))) (k : own_Go p e below Fe Q (T.setTop (mkF m pc' Ls (.int v :: st)))) : own_Go p e below Fe Q (T.setTop (mkF m pc Ls (st))) := by
  subst hp
  exact own_st (fun _ hr => XS.iloadN X.here hx rfl hd hl hr) k
theorem own_istore (X : Stand p l e R s m args below meth c T locs cells slots) (hx : p.tables.exec = Jvm.exec) {i : Nat} {x : Int32} (pc' : Nat) (hp : pc + 2 = pc') (hd : decode c.code pc = .ok (.istore i, 2)) (Ls' : Array Slot) (hl : storeLocals Ls i (.int x) = some Ls') (k : own_Go p e below Fe Q (T.setTop (mkF m pc' Ls' (st)))) : own_Go p e below Fe Q (T.setTop (mkF m pc Ls (.int x :: st))) := by
  subst hp
  exact own_st (fun _ hr => XS.istore X.here hx rfl hd rfl hl hr) k
theorem own_istoreN (X : Stand p l e R s m args below meth c T locs cells slots) (hx : p.tables.exec = Jvm.exec) {i : Fin 4} {x : Int32} (pc' : Nat) (hp : pc + 1 = pc') (hd : decode c.code pc = .ok (.istore_n i, 1)) (Ls' : Array Slot) (hl : storeLocals Ls i.val (.int x) = some Ls') (k : own_Go p e below Fe Q (T.setTop (mkF m pc' Ls' (st)))) : own_Go p e below Fe Q (T.setTop (mkF m pc Ls (.int x :: st))) := by
  subst hp
  exact own_st (fun _ hr => XS.istoreN X.here hx rfl hd rfl hl hr) k
theorem own_lload (X : Stand p l e R s m args below meth c T locs cells slots) (hx : p.tables.exec = Jvm.exec) {i : Nat} {v : Int64} (pc' : Nat) (hp : pc + 2 = pc') (hd : decode c.code pc = .ok (.lload i, 2)) (hl : Ls[i]? = some (.val (.long v))) (k : own_Go p e below Fe Q (T.setTop (mkF m pc' Ls (.long v :: st)))) : own_Go p e below Fe Q (T.setTop (mkF m pc Ls (st))) := by
  subst hp
  exact own_st (fun _ hr => XS.lload X.here hx rfl hd hl hr) k
theorem own_lloadN (X : Stand p l e R s m args below meth c T locs cells slots) (hx : p.tables.exec = Jvm.exec) {i : Fin 4} {v : Int64} (pc' : Nat) (hp : pc + 1 = pc') (hd : decode c.code pc = .ok (.lload_n i, 1)) (hl : Ls[i.val]? = some (.val (.long v))) (k : own_Go p e below Fe Q (T.setTop (mkF m pc' Ls (.long v :: st)))) : own_Go p e below Fe Q (T.setTop (mkF m pc Ls (st))) := by
  subst hp
  exact own_st (fun _ hr => XS.lloadN X.here hx rfl hd hl hr) k
theorem own_lstore (X : Stand p l e R s m args below meth c T locs cells slots) (hx : p.tables.exec = Jvm.exec) {i : Nat} {x : Int64} (pc' : Nat) (hp : pc + 2 = pc') (hd : decode c.code pc = .ok (.lstore i, 2)) (Ls' : Array Slot) (hl : storeLocals Ls i (.long x) = some Ls') (k : own_Go p e below Fe Q (T.setTop (mkF m pc' Ls' (st)))) : own_Go p e below Fe Q (T.setTop (mkF m pc Ls (.long x :: st))) := by
  subst hp
  exact own_st (fun _ hr => XS.lstore X.here hx rfl hd rfl hl hr) k
theorem own_lstoreN (X : Stand p l e R s m args below meth c T locs cells slots) (hx : p.tables.exec = Jvm.exec) {i : Fin 4} {x : Int64} (pc' : Nat) (hp : pc + 1 = pc') (hd : decode c.code pc = .ok (.lstore_n i, 1)) (Ls' : Array Slot) (hl : storeLocals Ls i.val (.long x) = some Ls') (k : own_Go p e below Fe Q (T.setTop (mkF m pc' Ls' (st)))) : own_Go p e below Fe Q (T.setTop (mkF m pc Ls (.long x :: st))) := by
  subst hp
  exact own_st (fun _ hr => XS.lstoreN X.here hx rfl hd rfl hl hr) k
theorem own_dload (X : Stand p l e R s m args below meth c T locs cells slots) (hx : p.tables.exec = Jvm.exec) {i : Nat} {v : UInt64} (pc' : Nat) (hp : pc + 2 = pc') (hd : decode c.code pc = .ok (.dload i, 2)) (hl : Ls[i]? = some (.val (.double v))) (k : own_Go p e below Fe Q (T.setTop (mkF m pc' Ls (.double v :: st)))) : own_Go p e below Fe Q (T.setTop (mkF m pc Ls (st))) := by
  subst hp
  exact own_st (fun _ hr => XS.dload X.here hx rfl hd hl hr) k
theorem own_dloadN (X : Stand p l e R s m args below meth c T locs cells slots) (hx : p.tables.exec = Jvm.exec) {i : Fin 4} {v : UInt64} (pc' : Nat) (hp : pc + 1 = pc') (hd : decode c.code pc = .ok (.dload_n i, 1)) (hl : Ls[i.val]? = some (.val (.double v))) (k : own_Go p e below Fe Q (T.setTop (mkF m pc' Ls (.double v :: st)))) : own_Go p e below Fe Q (T.setTop (mkF m pc Ls (st))) := by
  subst hp
  exact own_st (fun _ hr => XS.dloadN X.here hx rfl hd hl hr) k
theorem own_dstore (X : Stand p l e R s m args below meth c T locs cells slots) (hx : p.tables.exec = Jvm.exec) {i : Nat} {x : UInt64} (pc' : Nat) (hp : pc + 2 = pc') (hd : decode c.code pc = .ok (.dstore i, 2)) (Ls' : Array Slot) (hl : storeLocals Ls i (.double x) = some Ls') (k : own_Go p e below Fe Q (T.setTop (mkF m pc' Ls' (st)))) : own_Go p e below Fe Q (T.setTop (mkF m pc Ls (.double x :: st))) := by
  subst hp
  exact own_st (fun _ hr => XS.dstore X.here hx rfl hd rfl hl hr) k
theorem own_dstoreN (X : Stand p l e R s m args below meth c T locs cells slots) (hx : p.tables.exec = Jvm.exec) {i : Fin 4} {x : UInt64} (pc' : Nat) (hp : pc + 1 = pc') (hd : decode c.code pc = .ok (.dstore_n i, 1)) (Ls' : Array Slot) (hl : storeLocals Ls i.val (.double x) = some Ls') (k : own_Go p e below Fe Q (T.setTop (mkF m pc' Ls' (st)))) : own_Go p e below Fe Q (T.setTop (mkF m pc Ls (.double x :: st))) := by
  subst hp
  exact own_st (fun _ hr => XS.dstoreN X.here hx rfl hd rfl hl hr) k
theorem own_aload (X : Stand p l e R s m args below meth c T locs cells slots) (hx : p.tables.exec = Jvm.exec) {i : Nat} {v : Value} (pc' : Nat) (hp : pc + 2 = pc') (hd : decode c.code pc = .ok (.aload i, 2)) (hl : Ls[i]? = some (.val v)) (hv : v.isRef = true) (k : own_Go p e below Fe Q (T.setTop (mkF m pc' Ls (v :: st)))) : own_Go p e below Fe Q (T.setTop (mkF m pc Ls (st))) := by
  subst hp
  exact own_st (fun _ hr => XS.aload X.here hx rfl hd hl hv hr) k
theorem own_aloadN (X : Stand p l e R s m args below meth c T locs cells slots) (hx : p.tables.exec = Jvm.exec) {i : Fin 4} {v : Value} (pc' : Nat) (hp : pc + 1 = pc') (hd : decode c.code pc = .ok (.aload_n i, 1)) (hl : Ls[i.val]? = some (.val v)) (hv : v.isRef = true) (k : own_Go p e below Fe Q (T.setTop (mkF m pc' Ls (v :: st)))) : own_Go p e below Fe Q (T.setTop (mkF m pc Ls (st))) := by
  subst hp
  exact own_st (fun _ hr => XS.aloadN X.here hx rfl hd hl hv hr) k
theorem own_astore (X : Stand p l e R s m args below meth c T locs cells slots) (hx : p.tables.exec = Jvm.exec) {i : Nat} {x : Value} (pc' : Nat) (hp : pc + 2 = pc') (hd : decode c.code pc = .ok (.astore i, 2)) (hv : x.isRef = true) (Ls' : Array Slot) (hl : storeLocals Ls i x = some Ls') (k : own_Go p e below Fe Q (T.setTop (mkF m pc' Ls' (st)))) : own_Go p e below Fe Q (T.setTop (mkF m pc Ls (x :: st))) := by
  subst hp
  exact own_st (fun _ hr => XS.astore X.here hx rfl hd rfl hv hl hr) k
theorem own_astoreN (X : Stand p l e R s m args below meth c T locs cells slots) (hx : p.tables.exec = Jvm.exec) {i : Fin 4} {x : Value} (pc' : Nat) (hp : pc + 1 = pc') (hd : decode c.code pc = .ok (.astore_n i, 1)) (hv : x.isRef = true) (Ls' : Array Slot) (hl : storeLocals Ls i.val x = some Ls') (k : own_Go p e below Fe Q (T.setTop (mkF m pc' Ls' (st)))) : own_Go p e below Fe Q (T.setTop (mkF m pc Ls (x :: st))) := by
  subst hp
  exact own_st (fun _ hr => XS.astoreN X.here hx rfl hd rfl hv hl hr) k
theorem own_iconst (X : Stand p l e R s m args below meth c T locs cells slots) (hx : p.tables.exec = Jvm.exec) {i : Int} (pc' : Nat) (hp : pc + 1 = pc') (hd : decode c.code pc = .ok (.iconst i, 1)) (z : Int32) (hz : Int32.ofInt i = z) (k : own_Go p e below Fe Q (T.setTop (mkF m pc' Ls (.int z :: st)))) : own_Go p e below Fe Q (T.setTop (mkF m pc Ls (st))) := by
  subst hp; subst hz
  exact own_st (fun _ hr => XS.iconst X.here hx rfl hd hr) k
theorem own_bipush (X : Stand p l e R s m args below meth c T locs cells slots) (hx : p.tables.exec = Jvm.exec) {i : Int} (pc' : Nat) (hp : pc + 2 = pc') (hd : decode c.code pc = .ok (.bipush i, 2)) (z : Int32) (hz : (Int8.ofInt i).toInt32 = z) (k : own_Go p e below Fe Q (T.setTop (mkF m pc' Ls (.int z :: st)))) : own_Go p e below Fe Q (T.setTop (mkF m pc Ls (st))) := by
  subst hp; subst hz
  exact own_st (fun _ hr => XS.bipush X.here hx rfl hd hr) k
theorem own_sipush (X : Stand p l e R s m args below meth c T locs cells slots) (hx : p.tables.exec = Jvm.exec) {i : Int} (pc' : Nat) (hp : pc + 3 = pc') (hd : decode c.code pc = .ok (.sipush i, 3)) (z : Int32) (hz : (Int16.ofInt i).toInt32 = z) (k : own_Go p e below Fe Q (T.setTop (mkF m pc' Ls (.int z :: st)))) : own_Go p e below Fe Q (T.setTop (mkF m pc Ls (st))) := by
  subst hp; subst hz
  exact own_st (fun _ hr => XS.sipush X.here hx rfl hd hr) k
theorem own_lconst (X : Stand p l e R s m args below meth c T locs cells slots) (hx : p.tables.exec = Jvm.exec) {i : Fin 2} (pc' : Nat) (hp : pc + 1 = pc') (hd : decode c.code pc = .ok (.lconst i, 1)) (z : Int64) (hz : Int64.ofNat i = z) (k : own_Go p e below Fe Q (T.setTop (mkF m pc' Ls (.long z :: st)))) : own_Go p e below Fe Q (T.setTop (mkF m pc Ls (st))) := by
  subst hp; subst hz
  exact own_st (fun _ hr => XS.lconst X.here hx rfl hd hr) k
theorem own_dconst0 (X : Stand p l e R s m args below meth c T locs cells slots) (hx : p.tables.exec = Jvm.exec)  (pc' : Nat) (hp : pc + 1 = pc') (hd : decode c.code pc = .ok (.dconst 0, 1))  (k : own_Go p e below Fe Q (T.setTop (mkF m pc' Ls (.double FP.dconst0 :: st)))) : own_Go p e below Fe Q (T.setTop (mkF m pc Ls (st))) := by
  subst hp
  exact own_st (fun _ hr => XS.dconst0 X.here hx rfl hd rfl hr) k
theorem own_dconst1 (X : Stand p l e R s m args below meth c T locs cells slots) (hx : p.tables.exec = Jvm.exec)  (pc' : Nat) (hp : pc + 1 = pc') (hd : decode c.code pc = .ok (.dconst 1, 1))  (k : own_Go p e below Fe Q (T.setTop (mkF m pc' Ls (.double FP.dconst1 :: st)))) : own_Go p e below Fe Q (T.setTop (mkF m pc Ls (st))) := by
  subst hp
  exact own_st (fun _ hr => XS.dconst1 X.here hx rfl hd rfl hr) k
theorem own_aconst_null (X : Stand p l e R s m args below meth c T locs cells slots) (hx : p.tables.exec = Jvm.exec)  (pc' : Nat) (hp : pc + 1 = pc') (hd : decode c.code pc = .ok (.aconst_null, 1))  (k : own_Go p e below Fe Q (T.setTop (mkF m pc' Ls (.null :: st)))) : own_Go p e below Fe Q (T.setTop (mkF m pc Ls (st))) := by
  subst hp
  exact own_st (fun _ hr => XS.aconstNull X.here hx rfl hd hr) k
theorem own_iadd (X : Stand p l e R s m args below meth c T locs cells slots) (hx : p.tables.exec = Jvm.exec) {x y : Int32} (pc' : Nat) (hp : pc + 1 = pc') (hd : decode c.code pc = .ok (.iadd, 1)) (z : Int32) (hz : x + y = z) (k : own_Go p e below Fe Q (T.setTop (mkF m pc' Ls (.int z :: st)))) : own_Go p e below Fe Q (T.setTop (mkF m pc Ls (.int y :: .int x :: st))) := by
  subst hp; subst hz
  exact own_st (fun _ hr => XS.iadd X.here hx rfl hd rfl hr) k
theorem own_isub (X : Stand p l e R s m args below meth c T locs cells slots) (hx : p.tables.exec = Jvm.exec) {x y : Int32} (pc' : Nat) (hp : pc + 1 = pc') (hd : decode c.code pc = .ok (.isub, 1)) (z : Int32) (hz : x - y = z) (k : own_Go p e below Fe Q (T.setTop (mkF m pc' Ls (.int z :: st)))) : own_Go p e below Fe Q (T.setTop (mkF m pc Ls (.int y :: .int x :: st))) := by
  subst hp; subst hz
  exact own_st (fun _ hr => XS.isub X.here hx rfl hd rfl hr) k
theorem own_imul (X : Stand p l e R s m args below meth c T locs cells slots) (hx : p.tables.exec = Jvm.exec) {x y : Int32} (pc' : Nat) (hp : pc + 1 = pc') (hd : decode c.code pc = .ok (.imul, 1)) (z : Int32) (hz : x * y = z) (k : own_Go p e below Fe Q (T.setTop (mkF m pc' Ls (.int z :: st)))) : own_Go p e below Fe Q (T.setTop (mkF m pc Ls (.int y :: .int x :: st))) := by
  subst hp; subst hz
  exact own_st (fun _ hr => XS.imul X.here hx rfl hd rfl hr) k
theorem own_iand (X : Stand p l e R s m args below meth c T locs cells slots) (hx : p.tables.exec = Jvm.exec) {x y : Int32} (pc' : Nat) (hp : pc + 1 = pc') (hd : decode c.code pc = .ok (.iand, 1)) (z : Int32) (hz : x &&& y = z) (k : own_Go p e below Fe Q (T.setTop (mkF m pc' Ls (.int z :: st)))) : own_Go p e below Fe Q (T.setTop (mkF m pc Ls (.int y :: .int x :: st))) := by
  subst hp; subst hz
  exact own_st (fun _ hr => XS.iand X.here hx rfl hd rfl hr) k
theorem own_ior (X : Stand p l e R s m args below meth c T locs cells slots) (hx : p.tables.exec = Jvm.exec) {x y : Int32} (pc' : Nat) (hp : pc + 1 = pc') (hd : decode c.code pc = .ok (.ior, 1)) (z : Int32) (hz : x ||| y = z) (k : own_Go p e below Fe Q (T.setTop (mkF m pc' Ls (.int z :: st)))) : own_Go p e below Fe Q (T.setTop (mkF m pc Ls (.int y :: .int x :: st))) := by
  subst hp; subst hz
  exact own_st (fun _ hr => XS.ior X.here hx rfl hd rfl hr) k
theorem own_ixor (X : Stand p l e R s m args below meth c T locs cells slots) (hx : p.tables.exec = Jvm.exec) {x y : Int32} (pc' : Nat) (hp : pc + 1 = pc') (hd : decode c.code pc = .ok (.ixor, 1)) (z : Int32) (hz : x ^^^ y = z) (k : own_Go p e below Fe Q (T.setTop (mkF m pc' Ls (.int z :: st)))) : own_Go p e below Fe Q (T.setTop (mkF m pc Ls (.int y :: .int x :: st))) := by
  subst hp; subst hz
  exact own_st (fun _ hr => XS.ixor X.here hx rfl hd rfl hr) k
theorem own_ineg (X : Stand p l e R s m args below meth c T locs cells slots) (hx : p.tables.exec = Jvm.exec) {x : Int32} (pc' : Nat) (hp : pc + 1 = pc') (hd : decode c.code pc = .ok (.ineg, 1)) (z : Int32) (hz : -x = z) (k : own_Go p e below Fe Q (T.setTop (mkF m pc' Ls (.int z :: st)))) : own_Go p e below Fe Q (T.setTop (mkF m pc Ls (.int x :: st))) := by
  subst hp; subst hz
  exact own_st (fun _ hr => XS.ineg X.here hx rfl hd rfl hr) k
theorem own_idiv (X : Stand p l e R s m args below meth c T locs cells slots) (hx : p.tables.exec = Jvm.exec) {x y : Int32} (pc' : Nat) (hp : pc + 1 = pc') (hd : decode c.code pc = .ok (.idiv, 1)) (hy : y ≠ 0) (z : Int32) (hz : x / y = z) (k : own_Go p e below Fe Q (T.setTop (mkF m pc' Ls (.int z :: st)))) : own_Go p e below Fe Q (T.setTop (mkF m pc Ls (.int y :: .int x :: st))) := by
  subst hp; subst hz
  exact own_st (fun _ hr => XS.idiv X.here hx rfl hd rfl hy hr) k
theorem own_ladd (X : Stand p l e R s m args below meth c T locs cells slots) (hx : p.tables.exec = Jvm.exec) {x y : Int64} (pc' : Nat) (hp : pc + 1 = pc') (hd : decode c.code pc = .ok (.ladd, 1)) (z : Int64) (hz : x + y = z) (k : own_Go p e below Fe Q (T.setTop (mkF m pc' Ls (.long z :: st)))) : own_Go p e below Fe Q (T.setTop (mkF m pc Ls (.long y :: .long x :: st))) := by
  subst hp; subst hz
  exact own_st (fun _ hr => XS.ladd X.here hx rfl hd rfl hr) k
theorem own_lsub (X : Stand p l e R s m args below meth c T locs cells slots) (hx : p.tables.exec = Jvm.exec) {x y : Int64} (pc' : Nat) (hp : pc + 1 = pc') (hd : decode c.code pc = .ok (.lsub, 1)) (z : Int64) (hz : x - y = z) (k : own_Go p e below Fe Q (T.setTop (mkF m pc' Ls (.long z :: st)))) : own_Go p e below Fe Q (T.setTop (mkF m pc Ls (.long y :: .long x :: st))) := by
  subst hp; subst hz
  exact own_st (fun _ hr => XS.lsub X.here hx rfl hd rfl hr) k
theorem own_lmul (X : Stand p l e R s m args below meth c T locs cells slots) (hx : p.tables.exec = Jvm.exec) {x y : Int64} (pc' : Nat) (hp : pc + 1 = pc') (hd : decode c.code pc = .ok (.lmul, 1)) (z : Int64) (hz : x * y = z) (k : own_Go p e below Fe Q (T.setTop (mkF m pc' Ls (.long z :: st)))) : own_Go p e below Fe Q (T.setTop (mkF m pc Ls (.long y :: .long x :: st))) := by
  subst hp; subst hz
  exact own_st (fun _ hr => XS.lmul X.here hx rfl hd rfl hr) k
theorem own_land (X : Stand p l e R s m args below meth c T locs cells slots) (hx : p.tables.exec = Jvm.exec) {x y : Int64} (pc' : Nat) (hp : pc + 1 = pc') (hd : decode c.code pc = .ok (.land, 1)) (z : Int64) (hz : x &&& y = z) (k : own_Go p e below Fe Q (T.setTop (mkF m pc' Ls (.long z :: st)))) : own_Go p e below Fe Q (T.setTop (mkF m pc Ls (.long y :: .long x :: st))) := by
  subst hp; subst hz
  exact own_st (fun _ hr => XS.land X.here hx rfl hd rfl hr) k
theorem own_lor (X : Stand p l e R s m args below meth c T locs cells slots) (hx : p.tables.exec = Jvm.exec) {x y : Int64} (pc' : Nat) (hp : pc + 1 = pc') (hd : decode c.code pc = .ok (.lor, 1)) (z : Int64) (hz : x ||| y = z) (k : own_Go p e below Fe Q (T.setTop (mkF m pc' Ls (.long z :: st)))) : own_Go p e below Fe Q (T.setTop (mkF m pc Ls (.long y :: .long x :: st))) := by
  subst hp; subst hz
  exact own_st (fun _ hr => XS.lor X.here hx rfl hd rfl hr) k
theorem own_lxor (X : Stand p l e R s m args below meth c T locs cells slots) (hx : p.tables.exec = Jvm.exec) {x y : Int64} (pc' : Nat) (hp : pc + 1 = pc') (hd : decode c.code pc = .ok (.lxor, 1)) (z : Int64) (hz : x ^^^ y = z) (k : own_Go p e below Fe Q (T.setTop (mkF m pc' Ls (.long z :: st)))) : own_Go p e below Fe Q (T.setTop (mkF m pc Ls (.long y :: .long x :: st))) := by
  subst hp; subst hz
  exact own_st (fun _ hr => XS.lxor X.here hx rfl hd rfl hr) k
theorem own_lneg (X : Stand p l e R s m args below meth c T locs cells slots) (hx : p.tables.exec = Jvm.exec) {x : Int64} (pc' : Nat) (hp : pc + 1 = pc') (hd : decode c.code pc = .ok (.lneg, 1)) (z : Int64) (hz : -x = z) (k : own_Go p e below Fe Q (T.setTop (mkF m pc' Ls (.long z :: st)))) : own_Go p e below Fe Q (T.setTop (mkF m pc Ls (.long x :: st))) := by
  subst hp; subst hz
  exact own_st (fun _ hr => XS.lneg X.here hx rfl hd rfl hr) k
theorem own_ldiv (X : Stand p l e R s m args below meth c T locs cells slots) (hx : p.tables.exec = Jvm.exec) {x y : Int64} (pc' : Nat) (hp : pc + 1 = pc') (hd : decode c.code pc = .ok (.ldiv, 1)) (hy : y ≠ 0) (z : Int64) (hz : x / y = z) (k : own_Go p e below Fe Q (T.setTop (mkF m pc' Ls (.long z :: st)))) : own_Go p e below Fe Q (T.setTop (mkF m pc Ls (.long y :: .long x :: st))) := by
  subst hp; subst hz
  exact own_st (fun _ hr => XS.ldiv X.here hx rfl hd rfl hy hr) k
theorem own_irem (X : Stand p l e R s m args below meth c T locs cells slots) (hx : p.tables.exec = Jvm.exec) {x y : Int32} (pc' : Nat) (hp : pc + 1 = pc') (hd : decode c.code pc = .ok (.irem, 1)) (hy : y ≠ 0) (z : Int32) (hz : x % y = z) (k : own_Go p e below Fe Q (T.setTop (mkF m pc' Ls (.int z :: st)))) : own_Go p e below Fe Q (T.setTop (mkF m pc Ls (.int y :: .int x :: st))) := by
  subst hp; subst hz
  exact own_st (fun _ hr => iremM (g := mkF m pc Ls (.int y :: .int x :: st)) X hx rfl hd rfl hy hr) k
theorem own_lrem (X : Stand p l e R s m args below meth c T locs cells slots) (hx : p.tables.exec = Jvm.exec) {x y : Int64} (pc' : Nat) (hp : pc + 1 = pc') (hd : decode c.code pc = .ok (.lrem, 1)) (hy : y ≠ 0) (z : Int64) (hz : x % y = z) (k : own_Go p e below Fe Q (T.setTop (mkF m pc' Ls (.long z :: st)))) : own_Go p e below Fe Q (T.setTop (mkF m pc Ls (.long y :: .long x :: st))) := by
  subst hp; subst hz
  exact own_st (fun _ hr => XS.lrem X.here hx rfl hd rfl hy (by rw [lrem_mod]; exact hr)) k
theorem own_ishl (X : Stand p l e R s m args below meth c T locs cells slots) (hx : p.tables.exec = Jvm.exec) {x : Int32} {y : Int32} (pc' : Nat) (hp : pc + 1 = pc') (hd : decode c.code pc = .ok (.ishl, 1)) (z : Int32) (hz : x <<< (y &&& 31) = z) (k : own_Go p e below Fe Q (T.setTop (mkF m pc' Ls (.int z :: st)))) : own_Go p e below Fe Q (T.setTop (mkF m pc Ls (.int y :: .int x :: st))) := by
  subst hp; subst hz
  exact own_st (fun _ hr => XS.ishl X.here hx rfl hd rfl hr) k
theorem own_ishr (X : Stand p l e R s m args below meth c T locs cells slots) (hx : p.tables.exec = Jvm.exec) {x : Int32} {y : Int32} (pc' : Nat) (hp : pc + 1 = pc') (hd : decode c.code pc = .ok (.ishr, 1)) (z : Int32) (hz : x >>> (y &&& 31) = z) (k : own_Go p e below Fe Q (T.setTop (mkF m pc' Ls (.int z :: st)))) : own_Go p e below Fe Q (T.setTop (mkF m pc Ls (.int y :: .int x :: st))) := by
  subst hp; subst hz
  exact own_st (fun _ hr => XS.ishr X.here hx rfl hd rfl hr) k
theorem own_iushr (X : Stand p l e R s m args below meth c T locs cells slots) (hx : p.tables.exec = Jvm.exec) {x : Int32} {y : Int32} (pc' : Nat) (hp : pc + 1 = pc') (hd : decode c.code pc = .ok (.iushr, 1)) (z : Int32) (hz : (x.toUInt32 >>> (y &&& 31).toUInt32).toInt32 = z) (k : own_Go p e below Fe Q (T.setTop (mkF m pc' Ls (.int z :: st)))) : own_Go p e below Fe Q (T.setTop (mkF m pc Ls (.int y :: .int x :: st))) := by
  subst hp; subst hz
  exact own_st (fun _ hr => XS.iushr X.here hx rfl hd rfl hr) k
theorem own_lshl (X : Stand p l e R s m args below meth c T locs cells slots) (hx : p.tables.exec = Jvm.exec) {x : Int64} {y : Int32} (pc' : Nat) (hp : pc + 1 = pc') (hd : decode c.code pc = .ok (.lshl, 1)) (z : Int64) (hz : x <<< (y &&& 0x3f).toInt64 = z) (k : own_Go p e below Fe Q (T.setTop (mkF m pc' Ls (.long z :: st)))) : own_Go p e below Fe Q (T.setTop (mkF m pc Ls (.int y :: .long x :: st))) := by
  subst hp; subst hz
  exact own_st (fun _ hr => XS.lshl X.here hx rfl hd rfl hr) k
theorem own_lshr (X : Stand p l e R s m args below meth c T locs cells slots) (hx : p.tables.exec = Jvm.exec) {x : Int64} {y : Int32} (pc' : Nat) (hp : pc + 1 = pc') (hd : decode c.code pc = .ok (.lshr, 1)) (z : Int64) (hz : x >>> (y &&& 0x3f).toInt64 = z) (k : own_Go p e below Fe Q (T.setTop (mkF m pc' Ls (.long z :: st)))) : own_Go p e below Fe Q (T.setTop (mkF m pc Ls (.int y :: .long x :: st))) := by
  subst hp; subst hz
  exact own_st (fun _ hr => XS.lshr X.here hx rfl hd rfl hr) k
theorem own_lushr (X : Stand p l e R s m args below meth c T locs cells slots) (hx : p.tables.exec = Jvm.exec) {x : Int64} {y : Int32} (pc' : Nat) (hp : pc + 1 = pc') (hd : decode c.code pc = .ok (.lushr, 1)) (z : Int64) (hz : (x.toUInt64 >>> (y &&& 0x3f).toInt64.toUInt64).toInt64 = z) (k : own_Go p e below Fe Q (T.setTop (mkF m pc' Ls (.long z :: st)))) : own_Go p e below Fe Q (T.setTop (mkF m pc Ls (.int y :: .long x :: st))) := by
  subst hp; subst hz
  exact own_st (fun _ hr => XS.lushr X.here hx rfl hd rfl hr) k
theorem own_i2l (X : Stand p l e R s m args below meth c T locs cells slots) (hx : p.tables.exec = Jvm.exec) {x : Int32} (pc' : Nat) (hp : pc + 1 = pc') (hd : decode c.code pc = .ok (.i2l, 1)) (z : Int64) (hz : x.toInt64 = z) (k : own_Go p e below Fe Q (T.setTop (mkF m pc' Ls (.long z :: st)))) : own_Go p e below Fe Q (T.setTop (mkF m pc Ls (.int x :: st))) := by
  subst hp; subst hz
  exact own_st (fun _ hr => XS.i2l X.here hx rfl hd rfl hr) k
theorem own_l2i (X : Stand p l e R s m args below meth c T locs cells slots) (hx : p.tables.exec = Jvm.exec) {x : Int64} (pc' : Nat) (hp : pc + 1 = pc') (hd : decode c.code pc = .ok (.l2i, 1)) (z : Int32) (hz : x.toInt32 = z) (k : own_Go p e below Fe Q (T.setTop (mkF m pc' Ls (.int z :: st)))) : own_Go p e below Fe Q (T.setTop (mkF m pc Ls (.long x :: st))) := by
  subst hp; subst hz
  exact own_st (fun _ hr => XS.l2i X.here hx rfl hd rfl hr) k
theorem own_i2b (X : Stand p l e R s m args below meth c T locs cells slots) (hx : p.tables.exec = Jvm.exec) {x : Int32} (pc' : Nat) (hp : pc + 1 = pc') (hd : decode c.code pc = .ok (.i2b, 1)) (z : Int32) (hz : x.toInt8.toInt32 = z) (k : own_Go p e below Fe Q (T.setTop (mkF m pc' Ls (.int z :: st)))) : own_Go p e below Fe Q (T.setTop (mkF m pc Ls (.int x :: st))) := by
  subst hp; subst hz
  exact own_st (fun _ hr => XS.i2b X.here hx rfl hd rfl hr) k
theorem own_i2s (X : Stand p l e R s m args below meth c T locs cells slots) (hx : p.tables.exec = Jvm.exec) {x : Int32} (pc' : Nat) (hp : pc + 1 = pc') (hd : decode c.code pc = .ok (.i2s, 1)) (z : Int32) (hz : x.toInt16.toInt32 = z) (k : own_Go p e below Fe Q (T.setTop (mkF m pc' Ls (.int z :: st)))) : own_Go p e below Fe Q (T.setTop (mkF m pc Ls (.int x :: st))) := by
  subst hp; subst hz
  exact own_st (fun _ hr => XS.i2s X.here hx rfl hd rfl hr) k
theorem own_i2c (X : Stand p l e R s m args below meth c T locs cells slots) (hx : p.tables.exec = Jvm.exec) {x : Int32} (pc' : Nat) (hp : pc + 1 = pc') (hd : decode c.code pc = .ok (.i2c, 1)) (z : Int32) (hz : x.toUInt32.toUInt16.toUInt32.toInt32 = z) (k : own_Go p e below Fe Q (T.setTop (mkF m pc' Ls (.int z :: st)))) : own_Go p e below Fe Q (T.setTop (mkF m pc Ls (.int x :: st))) := by
  subst hp; subst hz
  exact own_st (fun _ hr => XS.i2c X.here hx rfl hd rfl hr) k
theorem own_lcmp (X : Stand p l e R s m args below meth c T locs cells slots) (hx : p.tables.exec = Jvm.exec) {x y : Int64} (pc' : Nat) (hp : pc + 1 = pc') (hd : decode c.code pc = .ok (.lcmp, 1)) (z : Int32) (hz : lcmpW x y = z) (k : own_Go p e below Fe Q (T.setTop (mkF m pc' Ls (.int z :: st)))) : own_Go p e below Fe Q (T.setTop (mkF m pc Ls (.long y :: .long x :: st))) := by
  subst hp; subst hz
  exact own_st (fun _ hr => XS.lcmp X.here hx rfl hd rfl hr) k
theorem own_i2d (X : Stand p l e R s m args below meth c T locs cells slots) (hx : p.tables.exec = Jvm.exec) {x : Int32} (pc' : Nat) (hp : pc + 1 = pc') (hd : decode c.code pc = .ok (.i2d, 1)) (z : UInt64) (hz : FP.i2d x = z) (k : own_Go p e below Fe Q (T.setTop (mkF m pc' Ls (.double z :: st)))) : own_Go p e below Fe Q (T.setTop (mkF m pc Ls (.int x :: st))) := by
  subst hp
  exact own_st (fun _ hr => XS.i2dS X.here hx rfl hd rfl hz hr) k
theorem own_l2d (X : Stand p l e R s m args below meth c T locs cells slots) (hx : p.tables.exec = Jvm.exec) {x : Int64} (pc' : Nat) (hp : pc + 1 = pc') (hd : decode c.code pc = .ok (.l2d, 1)) (z : UInt64) (hz : FP.l2d x = z) (k : own_Go p e below Fe Q (T.setTop (mkF m pc' Ls (.double z :: st)))) : own_Go p e below Fe Q (T.setTop (mkF m pc Ls (.long x :: st))) := by
  subst hp
  exact own_st (fun _ hr => XS.l2dS X.here hx rfl hd rfl hz hr) k
theorem own_d2i (X : Stand p l e R s m args below meth c T locs cells slots) (hx : p.tables.exec = Jvm.exec) {x : UInt64} (pc' : Nat) (hp : pc + 1 = pc') (hd : decode c.code pc = .ok (.d2i, 1)) (z : Int32) (hz : FP.d2i x = z) (k : own_Go p e below Fe Q (T.setTop (mkF m pc' Ls (.int z :: st)))) : own_Go p e below Fe Q (T.setTop (mkF m pc Ls (.double x :: st))) := by
  subst hp
  exact own_st (fun _ hr => XS.d2iS X.here hx rfl hd rfl hz hr) k
theorem own_d2l (X : Stand p l e R s m args below meth c T locs cells slots) (hx : p.tables.exec = Jvm.exec) {x : UInt64} (pc' : Nat) (hp : pc + 1 = pc') (hd : decode c.code pc = .ok (.d2l, 1)) (z : Int64) (hz : FP.d2l x = z) (k : own_Go p e below Fe Q (T.setTop (mkF m pc' Ls (.long z :: st)))) : own_Go p e below Fe Q (T.setTop (mkF m pc Ls (.double x :: st))) := by
  subst hp
  exact own_st (fun _ hr => XS.d2lS X.here hx rfl hd rfl hz hr) k
theorem own_dneg (X : Stand p l e R s m args below meth c T locs cells slots) (hx : p.tables.exec = Jvm.exec) {x : UInt64} (pc' : Nat) (hp : pc + 1 = pc') (hd : decode c.code pc = .ok (.dneg, 1)) (z : UInt64) (hz : FP.dneg x = z) (k : own_Go p e below Fe Q (T.setTop (mkF m pc' Ls (.double z :: st)))) : own_Go p e below Fe Q (T.setTop (mkF m pc Ls (.double x :: st))) := by
  subst hp
  exact own_st (fun _ hr => XS.dnegS X.here hx rfl hd rfl hz hr) k
theorem own_dadd (X : Stand p l e R s m args below meth c T locs cells slots) (hx : p.tables.exec = Jvm.exec) {x y : UInt64} (pc' : Nat) (hp : pc + 1 = pc') (hd : decode c.code pc = .ok (.dadd, 1)) (hn : NoNaN64 (FP.dadd x y)) (z : UInt64) (hz : FP.dadd x y = z) (k : own_Go p e below Fe Q (T.setTop (mkF m pc' Ls (.double z :: st)))) : own_Go p e below Fe Q (T.setTop (mkF m pc Ls (.double y :: .double x :: st))) := by
  subst hp
  exact own_st (fun _ hr => XS.daddS X.here hx rfl hd rfl hn hz hr) k
theorem own_dsub (X : Stand p l e R s m args below meth c T locs cells slots) (hx : p.tables.exec = Jvm.exec) {x y : UInt64} (pc' : Nat) (hp : pc + 1 = pc') (hd : decode c.code pc = .ok (.dsub, 1)) (hn : NoNaN64 (FP.dsub x y)) (z : UInt64) (hz : FP.dsub x y = z) (k : own_Go p e below Fe Q (T.setTop (mkF m pc' Ls (.double z :: st)))) : own_Go p e below Fe Q (T.setTop (mkF m pc Ls (.double y :: .double x :: st))) := by
  subst hp
  exact own_st (fun _ hr => XS.dsubS X.here hx rfl hd rfl hn hz hr) k
theorem own_dmul (X : Stand p l e R s m args below meth c T locs cells slots) (hx : p.tables.exec = Jvm.exec) {x y : UInt64} (pc' : Nat) (hp : pc + 1 = pc') (hd : decode c.code pc = .ok (.dmul, 1)) (hn : NoNaN64 (FP.dmul x y)) (z : UInt64) (hz : FP.dmul x y = z) (k : own_Go p e below Fe Q (T.setTop (mkF m pc' Ls (.double z :: st)))) : own_Go p e below Fe Q (T.setTop (mkF m pc Ls (.double y :: .double x :: st))) := by
  subst hp
  exact own_st (fun _ hr => XS.dmulS X.here hx rfl hd rfl hn hz hr) k
theorem own_ddiv (X : Stand p l e R s m args below meth c T locs cells slots) (hx : p.tables.exec = Jvm.exec) {x y : UInt64} (pc' : Nat) (hp : pc + 1 = pc') (hd : decode c.code pc = .ok (.ddiv, 1)) (hn : NoNaN64 (FP.ddiv x y)) (z : UInt64) (hz : FP.ddiv x y = z) (k : own_Go p e below Fe Q (T.setTop (mkF m pc' Ls (.double z :: st)))) : own_Go p e below Fe Q (T.setTop (mkF m pc Ls (.double y :: .double x :: st))) := by
  subst hp
  exact own_st (fun _ hr => XS.ddivS X.here hx rfl hd rfl hn hz hr) k
theorem own_dcmp (X : Stand p l e R s m args below meth c T locs cells slots) (hx : p.tables.exec = Jvm.exec) {o : CmpOp} {x y : UInt64} (pc' : Nat) (hp : pc + 1 = pc') (hd : decode c.code pc = .ok (.dcmp o, 1)) (z : Int32) (hz : cmpValue (FP.dcmp x y) o = z) (k : own_Go p e below Fe Q (T.setTop (mkF m pc' Ls (.int z :: st)))) : own_Go p e below Fe Q (T.setTop (mkF m pc Ls (.double y :: .double x :: st))) := by
  subst hp
  exact own_st (fun _ hr => XS.dcmpS X.here hx rfl hd rfl hz hr) k
theorem own_iinc (X : Stand p l e R s m args below meth c T locs cells slots) (hx : p.tables.exec = Jvm.exec) {i : Nat} {cst : Int} {x : Int32} (pc' : Nat) (hp : pc + 3 = pc') (hd : decode c.code pc = .ok (.iinc i cst, 3)) (hl : Ls[i]? = some (.val (.int x))) (Ls' : Array Slot) (hl' : storeLocals Ls i (.int (x + Int32.ofInt cst)) = some Ls') (k : own_Go p e below Fe Q (T.setTop (mkF m pc' Ls' (st)))) : own_Go p e below Fe Q (T.setTop (mkF m pc Ls (st))) := by
  subst hp
  exact own_st (fun _ hr => XS.iinc X.here hx rfl hd hl hl' hr) k
theorem own_dup (X : Stand p l e R s m args below meth c T locs cells slots) (hx : p.tables.exec = Jvm.exec) {x : Value} (pc' : Nat) (hp : pc + 1 = pc') (hd : decode c.code pc = .ok (.dup, 1)) (hc : x.category = 1) (k : own_Go p e below Fe Q (T.setTop (mkF m pc' Ls (x :: x :: st)))) : own_Go p e below Fe Q (T.setTop (mkF m pc Ls (x :: st))) := by
  subst hp
  exact own_st (fun _ hr => XS.dup X.here hx rfl hd rfl hc hr) k
theorem own_dupX1 (X : Stand p l e R s m args below meth c T locs cells slots) (hx : p.tables.exec = Jvm.exec) {x y : Value} (pc' : Nat) (hp : pc + 1 = pc') (hd : decode c.code pc = .ok (.dup_x1, 1)) (hc : x.category = 1) (hc' : y.category = 1) (k : own_Go p e below Fe Q (T.setTop (mkF m pc' Ls (x :: y :: x :: st)))) : own_Go p e below Fe Q (T.setTop (mkF m pc Ls (x :: y :: st))) := by
  subst hp
  exact own_st (fun _ hr => XS.dupX1 X.here hx rfl hd rfl hc hc' hr) k
theorem own_pop (X : Stand p l e R s m args below meth c T locs cells slots) (hx : p.tables.exec = Jvm.exec) {x : Value} (pc' : Nat) (hp : pc + 1 = pc') (hd : decode c.code pc = .ok (.pop, 1)) (hc : x.category = 1) (k : own_Go p e below Fe Q (T.setTop (mkF m pc' Ls (st)))) : own_Go p e below Fe Q (T.setTop (mkF m pc Ls (x :: st))) := by
  subst hp
  exact own_st (fun _ hr => XS.pop X.here hx rfl hd rfl hc hr) k
theorem own_goto (X : Stand p l e R s m args below meth c T locs cells slots) (hx : p.tables.exec = Jvm.exec)  {o : Int} (pc' : Nat) (hd : decode c.code pc = .ok (.goto o, 3))  (ho : 0 ≤ (pc : Int) + o) (hp : ((pc : Int) + o).toNat = pc') (k : own_Go p e below Fe Q (T.setTop (mkF m pc' Ls (st)))) : own_Go p e below Fe Q (T.setTop (mkF m pc Ls (st))) :=
  own_st (fun _ hr => XS.goto X.here hx rfl rfl hd ho hp hr) k
theorem own_ifYes (X : Stand p l e R s m args below meth c T locs cells slots) (hx : p.tables.exec = Jvm.exec) {cd : ClassFile.Cond} {x : Int32} {o : Int} (pc' : Nat) (hd : decode c.code pc = .ok (.ifCond cd o, 3)) (hc : ifCond.holds cd x = true) (ho : 0 ≤ (pc : Int) + o) (hp : ((pc : Int) + o).toNat = pc') (k : own_Go p e below Fe Q (T.setTop (mkF m pc' Ls (st)))) : own_Go p e below Fe Q (T.setTop (mkF m pc Ls (.int x :: st))) :=
  own_st (fun _ hr => XS.ifYes X.here hx rfl rfl hd rfl hc ho hp hr) k
theorem own_icmpYes (X : Stand p l e R s m args below meth c T locs cells slots) (hx : p.tables.exec = Jvm.exec) {cd : ClassFile.Cond} {x y : Int32} {o : Int} (pc' : Nat) (hd : decode c.code pc = .ok (.if_icmp cd o, 3)) (hc : if_icmp.holds cd x y = true) (ho : 0 ≤ (pc : Int) + o) (hp : ((pc : Int) + o).toNat = pc') (k : own_Go p e below Fe Q (T.setTop (mkF m pc' Ls (st)))) : own_Go p e below Fe Q (T.setTop (mkF m pc Ls (.int y :: .int x :: st))) :=
  own_st (fun _ hr => XS.icmpYes X.here hx rfl rfl hd rfl hc ho hp hr) k
theorem own_ifnullYes (X : Stand p l e R s m args below meth c T locs cells slots) (hx : p.tables.exec = Jvm.exec)  {o : Int} (pc' : Nat) (hd : decode c.code pc = .ok (.ifnull o, 3))  (ho : 0 ≤ (pc : Int) + o) (hp : ((pc : Int) + o).toNat = pc') (k : own_Go p e below Fe Q (T.setTop (mkF m pc' Ls (st)))) : own_Go p e below Fe Q (T.setTop (mkF m pc Ls (.null :: st))) :=
  own_st (fun _ hr => XS.ifnullYes X.here hx rfl rfl hd rfl ho hp hr) k
theorem own_ifnonnullYes (X : Stand p l e R s m args below meth c T locs cells slots) (hx : p.tables.exec = Jvm.exec) {b : Addr} {o : Int} (pc' : Nat) (hd : decode c.code pc = .ok (.ifnonnull o, 3))  (ho : 0 ≤ (pc : Int) + o) (hp : ((pc : Int) + o).toNat = pc') (k : own_Go p e below Fe Q (T.setTop (mkF m pc' Ls (st)))) : own_Go p e below Fe Q (T.setTop (mkF m pc Ls (.ref b :: st))) :=
  own_st (fun _ hr => XS.ifnonnullYes X.here hx rfl rfl hd rfl ho hp hr) k
theorem own_ifNo (X : Stand p l e R s m args below meth c T locs cells slots) (hx : p.tables.exec = Jvm.exec) {cd : ClassFile.Cond} {o : Int} {x : Int32} (pc' : Nat) (hp : pc + 3 = pc') (hd : decode c.code pc = .ok (.ifCond cd o, 3)) (hc : ifCond.holds cd x = false) (k : own_Go p e below Fe Q (T.setTop (mkF m pc' Ls (st)))) : own_Go p e below Fe Q (T.setTop (mkF m pc Ls (.int x :: st))) := by
  subst hp
  exact own_st (fun _ hr => XS.ifNo X.here hx rfl hd rfl hc hr) k
theorem own_icmpNo (X : Stand p l e R s m args below meth c T locs cells slots) (hx : p.tables.exec = Jvm.exec) {cd : ClassFile.Cond} {o : Int} {x y : Int32} (pc' : Nat) (hp : pc + 3 = pc') (hd : decode c.code pc = .ok (.if_icmp cd o, 3)) (hc : if_icmp.holds cd x y = false) (k : own_Go p e below Fe Q (T.setTop (mkF m pc' Ls (st)))) : own_Go p e below Fe Q (T.setTop (mkF m pc Ls (.int y :: .int x :: st))) := by
  subst hp
  exact own_st (fun _ hr => XS.icmpNo X.here hx rfl hd rfl hc hr) k
theorem own_ifnullNo (X : Stand p l e R s m args below meth c T locs cells slots) (hx : p.tables.exec = Jvm.exec) {o : Int} {b : Addr} (pc' : Nat) (hp : pc + 3 = pc') (hd : decode c.code pc = .ok (.ifnull o, 3))  (k : own_Go p e below Fe Q (T.setTop (mkF m pc' Ls (st)))) : own_Go p e below Fe Q (T.setTop (mkF m pc Ls (.ref b :: st))) := by
  subst hp
  exact own_st (fun _ hr => XS.ifnullNo X.here hx rfl hd rfl hr) k
theorem own_ifnonnullNo (X : Stand p l e R s m args below meth c T locs cells slots) (hx : p.tables.exec = Jvm.exec) {o : Int} (pc' : Nat) (hp : pc + 3 = pc') (hd : decode c.code pc = .ok (.ifnonnull o, 3))  (k : own_Go p e below Fe Q (T.setTop (mkF m pc' Ls (st)))) : own_Go p e below Fe Q (T.setTop (mkF m pc Ls (.null :: st))) := by
  subst hp
  exact own_st (fun _ hr => XS.ifnonnullNo X.here hx rfl hd rfl hr) k
theorem own_acmp (X : Stand p l e R s m args below meth c T locs cells slots) (hx : p.tables.exec = Jvm.exec) {cd : ACond} {x y : Value} {o : Int} (same : Bool) (pc' : Nat) (hd : decode c.code pc = .ok (.if_acmp cd o, 3)) (h1 : x.isRef = true) (h2 : y.isRef = true) (hq : decide (x = y) = same) (ho : 0 ≤ (pc : Int) + o) (hp : pc' = if acV cd same = true then ((pc : Int) + o).toNat else pc + 3) (k : own_Go p e below Fe Q (T.setTop (mkF m pc' Ls st))) : own_Go p e below Fe Q (T.setTop (mkF m pc Ls (y :: x :: st))) :=
  own_st (fun _ hr => Jvm.RoadKit.acmp (g := mkF m pc Ls (y :: x :: st)) X hx rfl h1 h2 (pc0 := pc) (pc' := pc') (same := same) rfl hd rfl hq ho hp hr) k
theorem own_tsw (X : Stand p l e R s m args below meth c T locs cells slots) (hx : p.tables.exec = Jvm.exec) {dflt low high : Int} {offs : Array Int} {len : Nat} {i : Int32} {o : Int} (pc' : Nat) (hd : decode c.code pc = .ok (.tableswitch dflt low high offs, len)) (hin : ¬ (i.toInt < low ∨ i.toInt > high)) (hoff : offs[(i.toInt - low).toNat]? = some o) (ho : 0 ≤ (pc : Int) + o) (hp : ((pc : Int) + o).toNat = pc') (k : own_Go p e below Fe Q (T.setTop (mkF m pc' Ls st))) : own_Go p e below Fe Q (T.setTop (mkF m pc Ls (.int i :: st))) :=
  own_st (fun _ hr => XS.tswIn X.here hx rfl rfl hd rfl hin hoff ho hp hr) k
theorem own_ldcI (X : Stand p l e R s m args below meth c T locs cells slots) (hx : p.tables.exec = Jvm.exec) (hZ : Z.Warmed39 s.vm) {own : String} {index : Nat} (hown : s.vm.findClass own = some m.cls) {z : Int32} (w : (Jvm.Cond.constant own index z).before a0 Z = true) (pc' : Nat) (hp : pc + 2 = pc') (hd : decode c.code pc = .ok (.ldc index, 2)) (k : own_Go p e below Fe Q (T.setTop (mkF m pc' Ls (.int z :: st)))) : own_Go p e below Fe Q (T.setTop (mkF m pc Ls st)) := by
  subst hp
  exact own_st (X.ldcInt hx hown (mvT hZ w) (g := mkF m pc Ls st) rfl hd) k
theorem own_ldcWI (X : Stand p l e R s m args below meth c T locs cells slots) (hx : p.tables.exec = Jvm.exec) (hZ : Z.Warmed39 s.vm) {own : String} {index : Nat} (hown : s.vm.findClass own = some m.cls) {z : Int32} (w : (Jvm.Cond.constant own index z).before a0 Z = true) (pc' : Nat) (hp : pc + 3 = pc') (hd : decode c.code pc = .ok (.ldc_w index, 3)) (k : own_Go p e below Fe Q (T.setTop (mkF m pc' Ls (.int z :: st)))) : own_Go p e below Fe Q (T.setTop (mkF m pc Ls st)) := by
  subst hp
  exact own_st (X.ldcwInt hx hown (mvT hZ w) (g := mkF m pc Ls st) rfl hd) k
theorem own_ldcJ (X : Stand p l e R s m args below meth c T locs cells slots) (hx : p.tables.exec = Jvm.exec) (hZ : Z.Warmed39 s.vm) {own : String} {index : Nat} (hown : s.vm.findClass own = some m.cls) {z : Int64} (w : (Jvm.Cond.constantLong own index z).before a0 Z = true) (pc' : Nat) (hp : pc + 3 = pc') (hd : decode c.code pc = .ok (.ldc2_w index, 3)) (k : own_Go p e below Fe Q (T.setTop (mkF m pc' Ls (.long z :: st)))) : own_Go p e below Fe Q (T.setTop (mkF m pc Ls st)) := by
  subst hp
  exact own_st (X.ldc2Long hx hown (mvT hZ w) (g := mkF m pc Ls st) rfl hd) k
theorem own_ldcD (X : Stand p l e R s m args below meth c T locs cells slots) (hx : p.tables.exec = Jvm.exec) (hZ : Z.Warmed39 s.vm) {own : String} {index : Nat} (hown : s.vm.findClass own = some m.cls) {z : UInt64} (w : (Jvm.Cond.constantDouble own index z).before a0 Z = true) (pc' : Nat) (hp : pc + 3 = pc') (hd : decode c.code pc = .ok (.ldc2_w index, 3)) (k : own_Go p e below Fe Q (T.setTop (mkF m pc' Ls (.double z :: st)))) : own_Go p e below Fe Q (T.setTop (mkF m pc Ls st)) := by
  subst hp
  exact own_st (X.ldc2DoubleC hx hown (mvT hZ w) (g := mkF m pc Ls st) rfl hd) k
theorem own_getS (X : Stand p l e R s m args below meth c T locs cells slots) (hx : p.tables.exec = Jvm.exec) (hZ : Z.Warmed39 s.vm) {own R0 O n d host : String} {index : Nat} (hown : s.vm.findClass own = some m.cls) (w : (Jvm.Cond.fieldLink own index R0 n d).before a0 Z = true ∨ (Jvm.Cond.fieldLinkNest own index R0 n d host).before a0 Z = true) (via : Via Z R0 O n d) (eT : T.heap = h) {v : Value} (F : Sta Z h O n d v) (pc' : Nat) (hp : pc + 3 = pc') (hd : decode c.code pc = .ok (.getstatic index, 3))
    (k : ∀ T', Stand p l e R s m args below meth c T' locs cells slots → T'.heap = h → own_Go p e below Fe Q (T'.setTop (mkF m pc' Ls (v :: st)))) : own_Go p e below Fe Q (T.setTop (mkF m pc Ls st)) := by
  subst hp
  obtain ⟨T', X', e', st'⟩ := getS2 X hx hZ hown w via eT F (g := mkF m pc Ls st) rfl hd
  exact own_st st' (k T' X' e')
theorem own_getF (X : Stand p l e R s m args below meth c T locs cells slots) (hx : p.tables.exec = Jvm.exec) (hZ : Z.Warmed39 s.vm) {own R0 O n d host : String} {index : Nat} (hown : s.vm.findClass own = some m.cls) (w : (Jvm.Cond.fieldLink own index R0 n d).before a0 Z = true ∨ (Jvm.Cond.fieldLinkNest own index R0 n d host).before a0 Z = true) (via : Via Z R0 O n d) (eT : T.heap = h) {a : Addr} {v : Value} (F : Fld Z h a O n d v) (pc' : Nat) (hp : pc + 3 = pc') (hd : decode c.code pc = .ok (.getfield index, 3))
    (k : ∀ T', Stand p l e R s m args below meth c T' locs cells slots → T'.heap = h → own_Go p e below Fe Q (T'.setTop (mkF m pc' Ls (v :: st)))) : own_Go p e below Fe Q (T.setTop (mkF m pc Ls (.ref a :: st))) := by
  subst hp
  obtain ⟨T', X', e', st'⟩ := getF X hx hZ hown w via eT F (g := mkF m pc Ls (.ref a :: st)) rfl rfl hd
  exact own_st st' (k T' X' e')
theorem own_putF (X : Stand p l e R s m args below meth c T locs cells slots) (hx : p.tables.exec = Jvm.exec) (hZ : Z.Warmed39 s.vm) {own R0 O n d host C : String} {index kk : Nat} {ty : FieldType} (hown : s.vm.findClass own = some m.cls) (w : (Jvm.Cond.fieldLink own index R0 n d).before a0 Z = true ∨ (Jvm.Cond.fieldLinkNest own index R0 n d host).before a0 Z = true) (via : Via Z R0 O n d) (eT : T.heap = h) {a : Addr} {v old : Value} (F : Fld Z h a O n d old) (E : Exa Z h a C)
    (L : (Jvm.Cond.lays C O n d).before a0 Z = true ∨ ((Jvm.Cond.laysFinal C O n d).before a0 Z = true ∧ own = O ∧ meth.name = "<init>")) (wi : (Jvm.Cond.instantiable C kk).before a0 Z = true) (hty : parseFieldDescriptor d = some ty) (hn : narrow ty v = v) (hf : Jvm.fits ty v = true) (pc' : Nat) (hp : pc + 3 = pc') (hd : decode c.code pc = .ok (.putfield index, 3))
    (k : ∀ T' h', Stand p l e R s m args below meth c T' (locs ++ [⟨a, Jvm.RoadKit.slotOf Z O n d⟩]) cells slots → T'.heap = h' → Wr h h' a (Jvm.RoadKit.slotOf Z O n d) v → own_Go p e below Fe Q (T'.setTop (mkF m pc' Ls st))) : own_Go p e below Fe Q (T.setTop (mkF m pc Ls (v :: .ref a :: st))) := by
  subst hp
  obtain ⟨T', h', X', e', W', st'⟩ := putF X hx hZ hown w via eT F E L wi hty hn hf (g := mkF m pc Ls (v :: .ref a :: st)) rfl rfl hd
  exact own_st st' (k T' h' X' e' W')
theorem own_putFN (X : Stand p l e R s m args below meth c T locs cells slots) (hx : p.tables.exec = Jvm.exec) (hZ : Z.Warmed39 s.vm) {own R0 O n d C : String} {index kk : Nat} {ty : FieldType} (hown : s.vm.findClass own = some m.cls) (w : (Jvm.Cond.fieldLink own index R0 n d).before a0 Z = true) (via : Via Z R0 O n d) (eT : T.heap = h) {a : Addr} {v v' old : Value} (F : Fld Z h a O n d old) (E : Exa Z h a C)
    (L : (Jvm.Cond.lays C O n d).before a0 Z = true ∨ ((Jvm.Cond.laysFinal C O n d).before a0 Z = true ∧ own = O ∧ meth.name = "<init>")) (wi : (Jvm.Cond.instantiable C kk).before a0 Z = true) (hty : parseFieldDescriptor d = some ty) (hn : narrow ty v = v') (hf : Jvm.fits ty v' = true) (pc' : Nat) (hp : pc + 3 = pc') (hd : decode c.code pc = .ok (.putfield index, 3))
    (k : ∀ T' h', Stand p l e R s m args below meth c T' (locs ++ [⟨a, Jvm.RoadKit.slotOf Z O n d⟩]) cells slots → T'.heap = h' → Wr h h' a (Jvm.RoadKit.slotOf Z O n d) v' → own_Go p e below Fe Q (T'.setTop (mkF m pc' Ls st))) : own_Go p e below Fe Q (T.setTop (mkF m pc Ls (v :: .ref a :: st))) := by
  subst hp
  obtain ⟨T', h', X', e', W', st'⟩ := putFN X hx hZ hown w via eT F E L wi hty hn hf (g := mkF m pc Ls (v :: .ref a :: st)) rfl rfl hd
  exact own_st st' (k T' h' X' e' W')
theorem own_new (X : Stand p l e R s m args below meth c T locs cells slots) (hx : p.tables.exec = Jvm.exec) (hZ : Z.Warmed39 s.vm) {own C : String} {index n : Nat} (hown : s.vm.findClass own = some m.cls) (w : (Jvm.Cond.classLink own index C).before a0 Z = true) (wi : (Jvm.Cond.instantiable C n).before a0 Z = true) (wz : (Jvm.Cond.initialized C).before a0 Z = true) (eT : T.heap = h) (pc' : Nat) (hp : pc + 3 = pc') (hd : decode c.code pc = .ok (.new index, 3)) (hc : cells + 1 ≤ R.cells) (hl : slots + n ≤ R.slots)
    (k : ∀ T' h' b, b = h.size → Stand p l e R s m args below meth c T' locs (cells + 1) (slots + n) → T'.heap = h' → Ext h h' → Exa Z h' b C → (∀ {O nm d : String} {ty : FieldType}, Laid Z a0 C O nm d → parseFieldDescriptor d = some ty → Fld Z h' b O nm d (defaultValue ty)) → own_Go p e below Fe Q (T'.setTop (mkF m pc' Ls (.ref b :: st)))) : own_Go p e below Fe Q (T.setTop (mkF m pc Ls st)) := by
  subst hp
  obtain ⟨T', h', X', e', E', A', D', -, st'⟩ := newO X hx hZ hown w wi wz eT (g := mkF m pc Ls st) rfl hd hc hl
  exact own_st st' (k T' h' _ rfl X' e' E' A' D')
theorem own_newA (X : Stand p l e R s m args below meth c T locs cells slots) (hx : p.tables.exec = Jvm.exec) (hZ : Z.Warmed39 s.vm) {aty : ArrayType} (w : (Jvm.Cond.arrayClass (newarray.typeOf aty)).before a0 Z = true) (eT : T.heap = h) {n : Int32} (pc' : Nat) (hp : pc + 2 = pc') (hd : decode c.code pc = .ok (.newarray aty, 2)) (hn : ¬ n < 0) (cap : Nat) (hcap : n.toNatClampNeg ≤ cap) (hb : cap * 8 ≤ 536870912) (hc : cells + 1 ≤ R.cells) (hl : slots + cap ≤ R.slots) (ad : String) (had : "[" ++ (newarray.typeOf aty).toString = ad)
    (k : ∀ T' h' cA b, b = h.size → Stand p l e R s m args below meth c T' locs (cells + 1) (slots + cap) → T'.heap = h' → Ext h h' → Arr Z h' b (newA cA (newarray.typeOf aty) n) (newarray.typeOf aty) → Exa Z h' b ad → own_Go p e below Fe Q (T'.setTop (mkF m pc' Ls (.ref b :: st)))) : own_Go p e below Fe Q (T.setTop (mkF m pc Ls (.int n :: st))) := by
  subst hp
  obtain ⟨T', h', cA, X', e', E', A', C', st'⟩ := newPE X hx hZ w eT (g := mkF m pc Ls (.int n :: st)) rfl hd rfl hn hcap hb hc hl had
  exact own_st st' (k T' h' cA _ rfl X' e' E' A' C')
theorem own_stI (X : Stand p l e R s m args below meth c T locs cells slots) (hx : p.tables.exec = Jvm.exec) (hZ : Z.Warmed39 s.vm) (eT : T.heap = h) {a : Addr} {kA : ClassId} {n : Int32} {vs : List Value} {dv : Value} (F : Arv Z h a kA .int n vs dv) {j : Int32} {x : Int32} (hj : ¬ j < 0 ∧ j < n) (i : Nat) (hi : j.toNatClampNeg = i) (hl : i < vs.length) (vs' : List Value) (hvs : vs.set i (.int x) = vs') (pc' : Nat) (hp : pc + 1 = pc') (hd : decode c.code pc = .ok (.iastore, 1))
    (k : ∀ T' h', Stand p l e R s m args below meth c T' (locs ++ [⟨a, j.toNatClampNeg⟩]) cells slots → T'.heap = h' → Wr h h' a j.toNatClampNeg (.int x) → Arv Z h' a kA .int n vs' dv → own_Go p e below Fe Q (T'.setTop (mkF m pc' Ls st))) : own_Go p e below Fe Q (T.setTop (mkF m pc Ls (.int x :: .int j :: .ref a :: st))) := by
  subst hp; subst hvs
  obtain ⟨cl, Ar, q, S, N1, H, G⟩ := F
  have hin := inb_of S hj
  obtain ⟨T', h', X', e', W', st'⟩ := stI X hx hZ eT Ar (j := j) hin (g := mkF m pc Ls (.int x :: .int j :: .ref a :: st)) rfl rfl hd
  exact own_st st' (k T' h' X' e' W' (Arv.set Ar q S N1 H G rfl W' i hi hl))
theorem own_stJ (X : Stand p l e R s m args below meth c T locs cells slots) (hx : p.tables.exec = Jvm.exec) (hZ : Z.Warmed39 s.vm) (eT : T.heap = h) {a : Addr} {kA : ClassId} {n : Int32} {vs : List Value} {dv : Value} (F : Arv Z h a kA .long n vs dv) {j : Int32} {x : Int64} (hj : ¬ j < 0 ∧ j < n) (i : Nat) (hi : j.toNatClampNeg = i) (hl : i < vs.length) (vs' : List Value) (hvs : vs.set i (.long x) = vs') (pc' : Nat) (hp : pc + 1 = pc') (hd : decode c.code pc = .ok (.lastore, 1))
    (k : ∀ T' h', Stand p l e R s m args below meth c T' (locs ++ [⟨a, j.toNatClampNeg⟩]) cells slots → T'.heap = h' → Wr h h' a j.toNatClampNeg (.long x) → Arv Z h' a kA .long n vs' dv → own_Go p e below Fe Q (T'.setTop (mkF m pc' Ls st))) : own_Go p e below Fe Q (T.setTop (mkF m pc Ls (.long x :: .int j :: .ref a :: st))) := by
  subst hp; subst hvs
  obtain ⟨cl, Ar, q, S, N1, H, G⟩ := F
  have hin := inb_of S hj
  obtain ⟨T', h', X', e', W', st'⟩ := stJ X hx hZ eT Ar (j := j) hin (g := mkF m pc Ls (.long x :: .int j :: .ref a :: st)) rfl rfl hd
  exact own_st st' (k T' h' X' e' W' (Arv.set Ar q S N1 H G rfl W' i hi hl))
theorem own_stD (X : Stand p l e R s m args below meth c T locs cells slots) (hx : p.tables.exec = Jvm.exec) (hZ : Z.Warmed39 s.vm) (eT : T.heap = h) {a : Addr} {kA : ClassId} {n : Int32} {vs : List Value} {dv : Value} (F : Arv Z h a kA .double n vs dv) {j : Int32} {x : UInt64} (hj : ¬ j < 0 ∧ j < n) (i : Nat) (hi : j.toNatClampNeg = i) (hl : i < vs.length) (vs' : List Value) (hvs : vs.set i (.double x) = vs') (pc' : Nat) (hp : pc + 1 = pc') (hd : decode c.code pc = .ok (.dastore, 1))
    (k : ∀ T' h', Stand p l e R s m args below meth c T' (locs ++ [⟨a, j.toNatClampNeg⟩]) cells slots → T'.heap = h' → Wr h h' a j.toNatClampNeg (.double x) → Arv Z h' a kA .double n vs' dv → own_Go p e below Fe Q (T'.setTop (mkF m pc' Ls st))) : own_Go p e below Fe Q (T.setTop (mkF m pc Ls (.double x :: .int j :: .ref a :: st))) := by
  subst hp; subst hvs
  obtain ⟨cl, Ar, q, S, N1, H, G⟩ := F
  have hin := inb_of S hj
  obtain ⟨T', h', X', e', W', st'⟩ := stD X hx hZ eT Ar (j := j) hin (g := mkF m pc Ls (.double x :: .int j :: .ref a :: st)) rfl rfl hd
  exact own_st st' (k T' h' X' e' W' (Arv.set Ar q S N1 H G rfl W' i hi hl))
theorem own_stB (X : Stand p l e R s m args below meth c T locs cells slots) (hx : p.tables.exec = Jvm.exec) (hZ : Z.Warmed39 s.vm) (eT : T.heap = h) {a : Addr} {kA : ClassId} {n : Int32} {vs : List Value} {dv : Value} (F : Arv Z h a kA .byte n vs dv) {j : Int32} {x : Int32} (hj : ¬ j < 0 ∧ j < n) (i : Nat) (hi : j.toNatClampNeg = i) (hl : i < vs.length) (vs' : List Value) (hvs : vs.set i (.int x.toInt8.toInt32) = vs') (pc' : Nat) (hp : pc + 1 = pc') (hd : decode c.code pc = .ok (.bastore, 1))
    (k : ∀ T' h', Stand p l e R s m args below meth c T' (locs ++ [⟨a, j.toNatClampNeg⟩]) cells slots → T'.heap = h' → Wr h h' a j.toNatClampNeg (.int x.toInt8.toInt32) → Arv Z h' a kA .byte n vs' dv → own_Go p e below Fe Q (T'.setTop (mkF m pc' Ls st))) : own_Go p e below Fe Q (T.setTop (mkF m pc Ls (.int x :: .int j :: .ref a :: st))) := by
  subst hp; subst hvs
  obtain ⟨cl, Ar, q, S, N1, H, G⟩ := F
  have hin := inb_of S hj
  obtain ⟨T', h', X', e', W', st'⟩ := stB X hx hZ eT Ar (j := j) hin (g := mkF m pc Ls (.int x :: .int j :: .ref a :: st)) rfl rfl hd
  exact own_st st' (k T' h' X' e' W' (Arv.set Ar q S N1 H G (fits_nar_byte x) W' i hi hl))
theorem own_stZ (X : Stand p l e R s m args below meth c T locs cells slots) (hx : p.tables.exec = Jvm.exec) (hZ : Z.Warmed39 s.vm) (eT : T.heap = h) {a : Addr} {kA : ClassId} {n : Int32} {vs : List Value} {dv : Value} (F : Arv Z h a kA .boolean n vs dv) {j : Int32} {x : Int32} (hj : ¬ j < 0 ∧ j < n) (i : Nat) (hi : j.toNatClampNeg = i) (hl : i < vs.length) (vs' : List Value) (hvs : vs.set i (.int (nar .boolean x)) = vs') (pc' : Nat) (hp : pc + 1 = pc') (hd : decode c.code pc = .ok (.bastore, 1))
    (k : ∀ T' h', Stand p l e R s m args below meth c T' (locs ++ [⟨a, j.toNatClampNeg⟩]) cells slots → T'.heap = h' → Wr h h' a j.toNatClampNeg (.int (nar .boolean x)) → Arv Z h' a kA .boolean n vs' dv → own_Go p e below Fe Q (T'.setTop (mkF m pc' Ls st))) : own_Go p e below Fe Q (T.setTop (mkF m pc Ls (.int x :: .int j :: .ref a :: st))) := by
  subst hp; subst hvs
  obtain ⟨cl, Ar, q, S, N1, H, G⟩ := F
  have hin := inb_of S hj
  obtain ⟨T', h', X', e', W', st'⟩ := stZ X hx hZ eT Ar (j := j) hin (g := mkF m pc Ls (.int x :: .int j :: .ref a :: st)) rfl rfl hd
  exact own_st st' (k T' h' X' e' W' (Arv.set Ar q S N1 H G (fits_nar_bool x) W' i hi hl))
theorem own_stC (X : Stand p l e R s m args below meth c T locs cells slots) (hx : p.tables.exec = Jvm.exec) (hZ : Z.Warmed39 s.vm) (eT : T.heap = h) {a : Addr} {kA : ClassId} {n : Int32} {vs : List Value} {dv : Value} (F : Arv Z h a kA .char n vs dv) {j : Int32} {x : Int32} (hj : ¬ j < 0 ∧ j < n) (i : Nat) (hi : j.toNatClampNeg = i) (hl : i < vs.length) (vs' : List Value) (hvs : vs.set i (.int (nar .char x)) = vs') (pc' : Nat) (hp : pc + 1 = pc') (hd : decode c.code pc = .ok (.castore, 1))
    (k : ∀ T' h', Stand p l e R s m args below meth c T' (locs ++ [⟨a, j.toNatClampNeg⟩]) cells slots → T'.heap = h' → Wr h h' a j.toNatClampNeg (.int (nar .char x)) → Arv Z h' a kA .char n vs' dv → own_Go p e below Fe Q (T'.setTop (mkF m pc' Ls st))) : own_Go p e below Fe Q (T.setTop (mkF m pc Ls (.int x :: .int j :: .ref a :: st))) := by
  subst hp; subst hvs
  obtain ⟨cl, Ar, q, S, N1, H, G⟩ := F
  have hin := inb_of S hj
  obtain ⟨T', h', X', e', W', st'⟩ := stC X hx hZ eT Ar (j := j) hin (g := mkF m pc Ls (.int x :: .int j :: .ref a :: st)) rfl rfl hd
  exact own_st st' (k T' h' X' e' W' (Arv.set Ar q S N1 H G (fits_nar_char x) W' i hi hl))
theorem own_ldI (X : Stand p l e R s m args below meth c T locs cells slots) (hx : p.tables.exec = Jvm.exec) (hZ : Z.Warmed39 s.vm) (eT : T.heap = h) {a : Addr} {kA : ClassId} {n : Int32} {vs : List Value} {dv : Value} (F : Arv Z h a kA .int n vs dv) {j : Int32} (hj : ¬ j < 0 ∧ j < n) (x : Int32) (hv : vs.getD j.toNatClampNeg dv = (.int x)) (pc' : Nat) (hp : pc + 1 = pc') (hd : decode c.code pc = .ok (.iaload, 1))
    (k : own_Go p e below Fe Q (T.setTop (mkF m pc' Ls (.int x :: st)))) : own_Go p e below Fe Q (T.setTop (mkF m pc Ls (.int j :: .ref a :: st))) := by
  subst hp
  obtain ⟨cl, Ar, q, S, N1, H, G⟩ := F
  have hin := inb_of S hj
  exact own_st (X.iaload hx (j := j) (v := .int x) (by rw [eT]; exact Ar.1) (State.isArrayOf_alike hZ.alike Ar.2.1) Ar.2.2 hin (Has.at H hin hv) (g := mkF m pc Ls (.int j :: .ref a :: st)) rfl rfl hd) k
theorem own_ldD (X : Stand p l e R s m args below meth c T locs cells slots) (hx : p.tables.exec = Jvm.exec) (hZ : Z.Warmed39 s.vm) (eT : T.heap = h) {a : Addr} {kA : ClassId} {n : Int32} {vs : List Value} {dv : Value} (F : Arv Z h a kA .double n vs dv) {j : Int32} (hj : ¬ j < 0 ∧ j < n) (x : UInt64) (hv : vs.getD j.toNatClampNeg dv = (.double x)) (pc' : Nat) (hp : pc + 1 = pc') (hd : decode c.code pc = .ok (.daload, 1))
    (k : own_Go p e below Fe Q (T.setTop (mkF m pc' Ls (.double x :: st)))) : own_Go p e below Fe Q (T.setTop (mkF m pc Ls (.int j :: .ref a :: st))) := by
  subst hp
  obtain ⟨cl, Ar, q, S, N1, H, G⟩ := F
  have hin := inb_of S hj
  exact own_st (X.daload hx (j := j) (v := .double x) (by rw [eT]; exact Ar.1) (State.isArrayOf_alike hZ.alike Ar.2.1) Ar.2.2 hin (Has.at H hin hv) (g := mkF m pc Ls (.int j :: .ref a :: st)) rfl rfl hd) k
theorem own_ldJ (X : Stand p l e R s m args below meth c T locs cells slots) (hx : p.tables.exec = Jvm.exec) (hZ : Z.Warmed39 s.vm) (eT : T.heap = h) {a : Addr} {kA : ClassId} {n : Int32} {vs : List Value} {dv : Value} (F : Arv Z h a kA .long n vs dv) {j : Int32} (hj : ¬ j < 0 ∧ j < n) (x : Int64) (hv : vs.getD j.toNatClampNeg dv = (.long x)) (pc' : Nat) (hp : pc + 1 = pc') (hd : decode c.code pc = .ok (.laload, 1))
    (k : own_Go p e below Fe Q (T.setTop (mkF m pc' Ls (.long x :: st)))) : own_Go p e below Fe Q (T.setTop (mkF m pc Ls (.int j :: .ref a :: st))) := by
  subst hp
  obtain ⟨cl, Ar, q, S, N1, H, G⟩ := F
  have hin := inb_of S hj
  exact own_st (X.laload hx (j := j) (v := .long x) (by rw [eT]; exact Ar.1) (State.isArrayOf_alike hZ.alike Ar.2.1) Ar.2.2 hin (Has.at H hin hv) (g := mkF m pc Ls (.int j :: .ref a :: st)) rfl rfl hd) k
theorem own_len (X : Stand p l e R s m args below meth c T locs cells slots) (hx : p.tables.exec = Jvm.exec) (hZ : Z.Warmed39 s.vm) (eT : T.heap = h) {a : Addr} {kA : ClassId} {ty : FieldType} {n : Int32} {vs : List Value} {dv : Value} (F : Arv Z h a kA ty n vs dv) (pc' : Nat) (hp : pc + 1 = pc') (hd : decode c.code pc = .ok (.arraylength, 1))
    (k : own_Go p e below Fe Q (T.setTop (mkF m pc' Ls (.int n :: st)))) : own_Go p e below Fe Q (T.setTop (mkF m pc Ls (.ref a :: st))) := by
  subst hp
  obtain ⟨cl, Ar, q, S, N1, H, G⟩ := F
  refine own_st (X.arraylength hx (by rw [eT]; exact Ar.1) (State.isArrayOf_alike hZ.alike Ar.2.1) (g := mkF m pc Ls (.ref a :: st)) rfl rfl hd) ?_
  rw [len_of S N1]
  exact k
theorem own_initO (X : Stand p l e R s m args below meth c T locs cells slots) (hx : p.tables.exec = Jvm.exec) (hZ : Z.Warmed39 s.vm) {own : String} {idx : Nat} (hown : s.vm.findClass own = some m.cls) (w1 : (Jvm.Cond.methodLink own idx Lib.objectInit).before a0 Z = true) (w2 : (Jvm.Cond.instanceMethod Lib.objectInit).before a0 Z = true) (w3 : (Jvm.Cond.code Lib.objectInit ⟨#[0xb1]⟩ 1 none).before a0 Z = true) (eT : T.heap = h) (hsize : Ls.size = c.maxLocals) {a : Addr} (pc' : Nat) (hp : pc + 3 = pc') (hd : decode c.code pc = .ok (.invokespecial idx, 3)) (hf : 1 ≤ R.frames) (W : Nat) (hW : 2 * 0 + (st.map fun v => v.category).sum ≤ W) (hl : W + 12 ≤ R.locals)
    (k : ∀ T', Stand p l e R s m args below meth c T' locs cells slots → T'.heap = h → own_Go p e below Fe Q (T'.setTop (mkF m pc' Ls st))) : own_Go p e below Fe Q (T.setTop (mkF m pc Ls (.ref a :: st))) := by
  subst hp
  obtain ⟨T', X', e', st'⟩ := initO X hx hZ hown w1 w2 w3 eT (g := mkF m pc Ls (.ref a :: st)) rfl hsize rfl hd hf hW hl
  exact own_st st' (k T' X' e')
theorem own_callS (X : Stand p l e R s m args below meth c T locs cells slots) (hx : p.tables.exec = Jvm.exec) (hZ : Z.Warmed39 s.vm) {own : String} {index : Nat} {y : MethodName} (hown : s.vm.findClass own = some m.cls) (w1 : (Jvm.Cond.methodLink own index y).before a0 Z = true) (w2 : (Jvm.Cond.static y).before a0 Z = true) (hy : y.cls ≠ "java/lang/invoke/MethodHandle" ∧ y.cls ≠ "java/lang/invoke/VarHandle") {bytes : ByteArray} {maxL : Nat} {ret : Option FieldType} {rm : Room} {as' : Array Value} {Q' : Option Value → Heap → List Loc → Prop} (hM : MetFree l y (head1 [Jvm.Cond.code y bytes maxL ret] rm) (fun a U => a = as' ∧ Z.Warmed39 U.vm ∧ U.heap = h) (fun _ _ _ _ _ => True) (fun _ U o U' => ∃ v L, o = .returned v ∧ Q' v U'.heap L ∧ FrameEnd U o U' L rm.cells rm.slots)) (wc : (Jvm.Cond.code y bytes maxL ret).before a0 Z = true) (wz : (Jvm.Cond.initialized y.cls).before a0 Z = true) (hfr : rm.frames + 1 ≤ R.frames) (eT : T.heap = h) (hsize : Ls.size = c.maxLocals) (argsL : List Value) {rest : List Value} (W : Nat) (hlo : W + (maxL + 11) + rm.locals ≤ R.locals) (hW : 2 * 0 + (rest.map fun v => v.category).sum ≤ W) (hcells : cells + rm.cells ≤ R.cells) (hslots : slots + rm.slots ≤ R.slots) (hlen : ∀ sig, parseMethodDescriptor y.desc = some sig → argsL.length = sig.parameters.length) (hst : st = argsL.reverse ++ rest) (has : argsL.toArray = as') (pc' : Nat) (hp : pc + 3 = pc') (hd : decode c.code pc = .ok (.invokestatic index, 3))
    (k : ∀ v T' Lc, Stand p l e R s m args below meth c T' (locs ++ Lc) (cells + rm.cells) (slots + rm.slots) → Q' v T'.heap Lc → own_Go p e below Fe Q (T'.setTop (mkF m pc' Ls (v.toList ++ rest)))) : own_Go p e below Fe Q (T.setTop (mkF m pc Ls st)) := by
  subst hp
  obtain ⟨v, _, ⟨T', L', k', n'⟩, -, X', ⟨Lc, hQ, l1, l2, l3⟩, st'⟩ := Jvm.LawKit.callS X hx (y := y) hown (mvT hZ w1) (mvT hZ w2) (mvT hZ wz) (mvT hZ wc) hy (backOf (W := W) hM hZ wc wz hfr hlo) (g := mkF m pc Ls st) rfl hsize (argsL := argsL) (rest := rest) hlen hst hW hd (fun _ _ => ⟨has, eT, hcells, hslots⟩)
  dsimp only [Pt.U, Pt.locs, Pt.cells, Pt.slots] at X' l1 l2 l3 st' hQ
  subst l1 l2 l3
  exact own_st st' (k v T' Lc X' hQ)
theorem own_special (X : Stand p l e R s m args below meth c T locs cells slots) (hx : p.tables.exec = Jvm.exec) (hZ : Z.Warmed39 s.vm) {own : String} {index : Nat} {y : MethodName} (hown : s.vm.findClass own = some m.cls) (hy1 : y.name = "<init>") (w1 : (Jvm.Cond.methodLink own index y).before a0 Z = true) (w2 : (Jvm.Cond.instanceMethod y).before a0 Z = true) {a : Addr} (hy : y.cls ≠ "java/lang/invoke/MethodHandle" ∧ y.cls ≠ "java/lang/invoke/VarHandle") {bytes : ByteArray} {maxL : Nat} {ret : Option FieldType} {rm : Room} {as' : Array Value} {Q' : Option Value → Heap → List Loc → Prop} (hret : ret = none) (hM : MetFree l y (head1 [Jvm.Cond.code y bytes maxL ret] rm) (fun a U => a = as' ∧ Z.Warmed39 U.vm ∧ U.heap = h) (fun _ _ _ _ _ => True) (fun _ U o U' => ∃ v L, o = .returned v ∧ Q' v U'.heap L ∧ FrameEnd U o U' L rm.cells rm.slots)) (wc : (Jvm.Cond.code y bytes maxL ret).before a0 Z = true) (wz : (Jvm.Cond.initialized y.cls).before a0 Z = true) (hfr : rm.frames + 1 ≤ R.frames) (eT : T.heap = h) (hsize : Ls.size = c.maxLocals) (argsL : List Value) {rest : List Value} (W : Nat) (hlo : W + (maxL + 11) + rm.locals ≤ R.locals) (hW : 2 * 0 + (rest.map fun v => v.category).sum ≤ W) (hcells : cells + rm.cells ≤ R.cells) (hslots : slots + rm.slots ≤ R.slots) (hlen : ∀ sig, parseMethodDescriptor y.desc = some sig → argsL.length = sig.parameters.length) (hst : st = argsL.reverse ++ .ref a :: rest) (has : (.ref a :: argsL).toArray = as') (pc' : Nat) (hp : pc + 3 = pc') (hd : decode c.code pc = .ok (.invokespecial index, 3))
    (k : ∀ v T' Lc, Stand p l e R s m args below meth c T' (locs ++ Lc) (cells + rm.cells) (slots + rm.slots) → Q' v T'.heap Lc → own_Go p e below Fe Q (T'.setTop (mkF m pc' Ls (v.toList ++ rest)))) : own_Go p e below Fe Q (T.setTop (mkF m pc Ls st)) := by
  subst hp
  obtain ⟨v, _, ⟨T', L', k', n'⟩, -, X', ⟨Lc, hQ, l1, l2, l3⟩, st'⟩ := X.specialBack hx (y := y) hy1 hown (mvT hZ w1) (mvT hZ w2) (mvT hZ (hret ▸ wc)) hy (backOf (W := W) hM hZ wc wz hfr hlo) (g := mkF m pc Ls st) rfl hsize (Steps.refl _) (a := a) (argsL := argsL) (rest := rest) hlen hst hW hd (fun _ _ => ⟨has, eT, hcells, hslots⟩)
  dsimp only [Pt.U, Pt.locs, Pt.cells, Pt.slots] at X' l1 l2 l3 st' hQ
  subst l1 l2 l3
  exact own_tr st' (k v T' Lc X' hQ)
theorem own_virtual (X : Stand p l e R s m args below meth c T locs cells slots) (hx : p.tables.exec = Jvm.exec) (hZ : Z.Warmed39 s.vm) {own : String} {index : Nat} {C : String} {y z : MethodName} (hown : s.vm.findClass own = some m.cls) (w1 : (Jvm.Cond.methodLink own index y).before a0 Z = true) (w2 : (Jvm.Cond.declares y).before a0 Z = true) (w3 : (Jvm.Cond.selects C y z).before a0 Z = true) (w4 : (Jvm.Cond.instanceMethod z).before a0 Z = true) (hyz : y = z) {a : Addr} (E : Exa Z h a C) (hy : y.cls ≠ "java/lang/invoke/MethodHandle" ∧ y.cls ≠ "java/lang/invoke/VarHandle") {bytes : ByteArray} {maxL : Nat} {ret : Option FieldType} {rm : Room} {as' : Array Value} {Q' : Option Value → Heap → List Loc → Prop} (hM : MetFree l z (head1 [Jvm.Cond.code z bytes maxL ret] rm) (fun a U => a = as' ∧ Z.Warmed39 U.vm ∧ U.heap = h) (fun _ _ _ _ _ => True) (fun _ U o U' => ∃ v L, o = .returned v ∧ Q' v U'.heap L ∧ FrameEnd U o U' L rm.cells rm.slots)) (wc : (Jvm.Cond.code z bytes maxL ret).before a0 Z = true) (wz : (Jvm.Cond.initialized z.cls).before a0 Z = true) (hfr : rm.frames + 1 ≤ R.frames) (eT : T.heap = h) (hsize : Ls.size = c.maxLocals) (argsL : List Value) {rest : List Value} (W : Nat) (hlo : W + (maxL + 11) + rm.locals ≤ R.locals) (hW : 2 * 0 + (rest.map fun v => v.category).sum ≤ W) (hcells : cells + rm.cells ≤ R.cells) (hslots : slots + rm.slots ≤ R.slots) (hlen : ∀ sig, parseMethodDescriptor y.desc = some sig → argsL.length = sig.parameters.length) (hst : st = argsL.reverse ++ .ref a :: rest) (has : (.ref a :: argsL).toArray = as') (pc' : Nat) (hp : pc + 3 = pc') (hd : decode c.code pc = .ok (.invokevirtual index, 3))
    (k : ∀ v T' Lc, Stand p l e R s m args below meth c T' (locs ++ Lc) (cells + rm.cells) (slots + rm.slots) → Q' v T'.heap Lc → own_Go p e below Fe Q (T'.setTop (mkF m pc' Ls (v.toList ++ rest)))) : own_Go p e below Fe Q (T.setTop (mkF m pc Ls st)) := by
  subst hp
  obtain ⟨cB, kB, qa, qb, qc⟩ := isOf hZ eT E
  obtain ⟨v, _, ⟨T', L', k', n'⟩, -, X', ⟨Lc, hQ, l1, l2, l3⟩, st'⟩ := X.virtualBack hx (y := y) (z := z) hown (mvT hZ w1) (mvT hZ w2) (hyz ▸ notFace_of_selects (args := #[]) (mvT hZ (hyz ▸ w3 : (Jvm.Cond.selects C z z).before a0 Z = true))) (mvT hZ w3) (mvT hZ w4) hy (backOf (W := W) hM hZ wc wz hfr hlo) qa qc (g := mkF m pc Ls st) rfl hsize (Steps.refl _) (argsL := argsL) (rest := rest) hlen hst hW hd (fun _ _ => ⟨has, eT, hcells, hslots⟩)
  dsimp only [Pt.U, Pt.locs, Pt.cells, Pt.slots] at X' l1 l2 l3 st' hQ
  subst l1 l2 l3
  exact own_tr st' (k v T' Lc X' hQ)
theorem own_virtualUp (X : Stand p l e R s m args below meth c T locs cells slots) (hx : p.tables.exec = Jvm.exec) (hZ : Z.Warmed39 s.vm) {own : String} {index : Nat} {C owner : String} {x y : MethodName} (hown : s.vm.findClass own = some m.cls) (w1 : (Jvm.Cond.methodLink own index x).before a0 Z = true) (w2 : (Jvm.Cond.sameMethod x.cls owner x.name x.desc).before a0 Z = true) (w2' : (Jvm.Cond.declares ⟨owner, x.name, x.desc⟩).before a0 Z = true) (w3 : (Jvm.Cond.selects C x y).before a0 Z = true) (w4 : (Jvm.Cond.instanceMethod y).before a0 Z = true) {a : Addr} (E : Exa Z h a C) (ho : owner ≠ "java/lang/invoke/MethodHandle" ∧ owner ≠ "java/lang/invoke/VarHandle") {bytes : ByteArray} {maxL : Nat} {ret : Option FieldType} {rm : Room} {as' : Array Value} {Q' : Option Value → Heap → List Loc → Prop} (hM : MetFree l y (head1 [Jvm.Cond.code y bytes maxL ret] rm) (fun a U => a = as' ∧ Z.Warmed39 U.vm ∧ U.heap = h) (fun _ _ _ _ _ => True) (fun _ U o U' => ∃ v L, o = .returned v ∧ Q' v U'.heap L ∧ FrameEnd U o U' L rm.cells rm.slots)) (wc : (Jvm.Cond.code y bytes maxL ret).before a0 Z = true) (wz : (Jvm.Cond.initialized y.cls).before a0 Z = true) (hfr : rm.frames + 1 ≤ R.frames) (eT : T.heap = h) (hsize : Ls.size = c.maxLocals) (argsL : List Value) {rest : List Value} (W : Nat) (hlo : W + (maxL + 11) + rm.locals ≤ R.locals) (hW : 2 * 0 + (rest.map fun v => v.category).sum ≤ W) (hcells : cells + rm.cells ≤ R.cells) (hslots : slots + rm.slots ≤ R.slots) (hlen : ∀ sig, parseMethodDescriptor x.desc = some sig → argsL.length = sig.parameters.length) (hst : st = argsL.reverse ++ .ref a :: rest) (has : (.ref a :: argsL).toArray = as') (pc' : Nat) (hp : pc + 3 = pc') (hd : decode c.code pc = .ok (.invokevirtual index, 3))
    (k : ∀ v T' Lc, Stand p l e R s m args below meth c T' (locs ++ Lc) (cells + rm.cells) (slots + rm.slots) → Q' v T'.heap Lc → own_Go p e below Fe Q (T'.setTop (mkF m pc' Ls (v.toList ++ rest)))) : own_Go p e below Fe Q (T.setTop (mkF m pc Ls st)) := by
  subst hp
  obtain ⟨cB, kB, qa, qb, qc⟩ := isOf hZ eT E
  obtain ⟨v, _, ⟨T', L', k', n'⟩, -, X', ⟨Lc, hQ, l1, l2, l3⟩, st'⟩ := X.virtualBackUp hx (x := x) (y := y) (owner := owner) hown (mvT hZ w1) (mvT hZ w2) (mvT hZ w2') ho (mvT hZ w3) (mvT hZ w4) (backOf (W := W) hM hZ wc wz hfr hlo) qa qc (g := mkF m pc Ls st) rfl hsize (Steps.refl _) (argsL := argsL) (rest := rest) hlen hst hW hd (fun _ _ => ⟨has, eT, hcells, hslots⟩)
  dsimp only [Pt.U, Pt.locs, Pt.cells, Pt.slots] at X' l1 l2 l3 st' hQ
  subst l1 l2 l3
  exact own_tr st' (k v T' Lc X' hQ)
theorem own_private (X : Stand p l e R s m args below meth c T locs cells slots) (hx : p.tables.exec = Jvm.exec) (hZ : Z.Warmed39 s.vm) {own : String} {index : Nat} {y z : MethodName} (hown : s.vm.findClass own = some m.cls) (w1 : (Jvm.Cond.methodLink own index y).before a0 Z = true) (w2 : (Jvm.Cond.instanceMethod y).before a0 Z = true) (hz : z.cls = y.cls) (w3 : (Jvm.Cond.selects z.cls z z).before a0 Z = true) (w4 : (Jvm.Cond.privateMethod y).before a0 Z = true) {a : Addr} (E : Exa Z h a y.cls) (hy : y.cls ≠ "java/lang/invoke/MethodHandle" ∧ y.cls ≠ "java/lang/invoke/VarHandle") {bytes : ByteArray} {maxL : Nat} {ret : Option FieldType} {rm : Room} {as' : Array Value} {Q' : Option Value → Heap → List Loc → Prop} (hM : MetFree l y (head1 [Jvm.Cond.code y bytes maxL ret] rm) (fun a U => a = as' ∧ Z.Warmed39 U.vm ∧ U.heap = h) (fun _ _ _ _ _ => True) (fun _ U o U' => ∃ v L, o = .returned v ∧ Q' v U'.heap L ∧ FrameEnd U o U' L rm.cells rm.slots)) (wc : (Jvm.Cond.code y bytes maxL ret).before a0 Z = true) (wz : (Jvm.Cond.initialized y.cls).before a0 Z = true) (hfr : rm.frames + 1 ≤ R.frames) (eT : T.heap = h) (hsize : Ls.size = c.maxLocals) (argsL : List Value) {rest : List Value} (W : Nat) (hlo : W + (maxL + 11) + rm.locals ≤ R.locals) (hW : 2 * 0 + (rest.map fun v => v.category).sum ≤ W) (hcells : cells + rm.cells ≤ R.cells) (hslots : slots + rm.slots ≤ R.slots) (hlen : ∀ sig, parseMethodDescriptor y.desc = some sig → argsL.length = sig.parameters.length) (hst : st = argsL.reverse ++ .ref a :: rest) (has : (.ref a :: argsL).toArray = as') (pc' : Nat) (hp : pc + 3 = pc') (hd : decode c.code pc = .ok (.invokevirtual index, 3))
    (k : ∀ v T' Lc, Stand p l e R s m args below meth c T' (locs ++ Lc) (cells + rm.cells) (slots + rm.slots) → Q' v T'.heap Lc → own_Go p e below Fe Q (T'.setTop (mkF m pc' Ls (v.toList ++ rest)))) : own_Go p e below Fe Q (T.setTop (mkF m pc Ls st)) := by
  subst hp
  obtain ⟨cq, q1, q2⟩ := E.cell
  have hsel : (Jvm.Cond.selects y.cls y y).before args s = true := by
    obtain ⟨c2, r2, m2, -, -, q3, -, kP, hkP, hkPi⟩ := Cond.selects_spec (mvT hZ w3 : (Jvm.Cond.selects z.cls z z).before args s = true)
    exact selects_self_of_private (hz ▸ findClass_of_methodNamed q3) hkP hkPi (Cond.privateMethod_at (mvP hZ w4 (args := #[]))) (mvT hZ w2) hy
  obtain ⟨v, _, ⟨T', L', k', n'⟩, -, X', ⟨Lc, hQ, l1, l2, l3⟩, st'⟩ := X.privateBack hx (y := y) hown (mvT hZ w1) (mvT hZ w2) hsel (Cond.privateMethod_at (mvP hZ w4 (args := #[]))) (mvT hZ wc) hy (backOf (W := W) hM hZ wc wz hfr hlo) (g := mkF m pc Ls st) rfl hsize (Steps.refl _) (a := a) (by rw [eT]; exact q1) q2 (argsL := argsL) (rest := rest) hlen hst hW hd (fun _ _ => ⟨has, eT, hcells, hslots⟩)
  dsimp only [Pt.U, Pt.locs, Pt.cells, Pt.slots] at X' l1 l2 l3 st' hQ
  subst l1 l2 l3
  exact own_tr st' (k v T' Lc X' hQ)
theorem own_rawbits (X : Stand p l e R s m args below meth c T locs cells slots) (hx : p.tables.exec = Jvm.exec) (hZ : Z.Warmed39 s.vm) {own : String} {index : Nat} (hown : s.vm.findClass own = some m.cls) (w1 : (Jvm.Cond.methodLink own index doubleToRawLongBitsName).before a0 Z = true) (w2 : (Jvm.Cond.native doubleToRawLongBitsName).before a0 Z = true) (w3 : (Jvm.Cond.static doubleToRawLongBitsName).before a0 Z = true) (w4 : (Jvm.Cond.initialized "java/lang/Double").before a0 Z = true) (eT : T.heap = h) (hsize : Ls.size = c.maxLocals) {b : UInt64} (pc' : Nat) (hp : pc + 3 = pc') (hd : decode c.code pc = .ok (.invokestatic index, 3)) (hf : 1 ≤ R.frames) (W : Nat) (hW : 2 * 0 + (st.map fun v => v.category).sum ≤ W) (hl : W + 15 ≤ R.locals)
    (k : ∀ T', Stand p l e R s m args below meth c T' locs cells slots → T'.heap = h → own_Go p e below Fe Q (T'.setTop (mkF m pc' Ls (.long b.toInt64 :: st)))) : own_Go p e below Fe Q (T.setTop (mkF m pc Ls (.double b :: st))) := by
  subst hp
  obtain ⟨vm', X', st'⟩ := X.doubleToRawLongBits hx hown (mvT hZ w1) (mvT hZ w2) (mvT hZ w3) (mvT hZ w4) (g := mkF m pc Ls (.double b :: st)) rfl hsize (rest := st) (b := b) rfl hd hf (Nat.le_trans (Nat.add_le_add_right hW _) hl)
  exact own_st st' (k _ X' eT)
end OwnSteps
section OwnRef
variable {p : Program} {l : Launch} {e : Env} {R : Room} {s : State} {m : MethodId} {args : Array Value} {below : List Frame} {meth : Method} {c : Code} {T : State} {locs : List Loc} {cells slots : Nat} {Z : State} {a0 : Array Value} {h : Heap}
/-- the entry that the sheet says is resolved is ready where the walk stands -/
theorem own_ready (X : Stand p l e R s m args below meth c T locs cells slots) (hZ : Z.Warmed39 s.vm) {own C n d : String} {index : Nat} (hown : s.vm.findClass own = some m.cls) (w : (Jvm.Cond.fieldRef own index C n d).before a0 Z = true)
    {cf i : Nat} {k : Class} {f : Field} (hf : Z.fieldFound? C n d = some (cf, k, i, f)) : T.vm.fieldReady m.cls index cf f := by
  have hW : Z.Warmed39 T.vm := wtrans hZ X.warmed
  have w2 : (Jvm.Cond.fieldRef own index C n d).before a0 (Z.setVm T.vm) = true := Cond.fieldRef_warmed39 hW w
  have hownT : (Z.setVm T.vm).vm.findClass own = some m.cls := by
    show T.vm.findClass own = _
    rw [X.warmed.alike.findClass]; exact hown
  obtain ⟨c2, k2, i2, f2, h2, r2⟩ := Cond.fieldRef_spec hownT w2
  obtain ⟨k', hi, -⟩ := State.fieldFound?_setVm (s := Z) hW.alike hf
  cases h2.symm.trans hi
  exact r2
theorem own_getFR (X : Stand p l e R s m args below meth c T locs cells slots) (hx : p.tables.exec = Jvm.exec) (hZ : Z.Warmed39 s.vm) {own C n d : String} {index : Nat} (hown : s.vm.findClass own = some m.cls) (w : (Jvm.Cond.fieldRef own index C n d).before a0 Z = true)
    (eT : T.heap = h) {a : Addr} {v : Value} (F : Fld Z h a C n d v) {g : JFrame} (hg : g.method = m) {rest : List Value} (hs : g.stack = .ref a :: rest) (hd : decode c.code g.pc = .ok (.getfield index, 3)) : ∃ T', Stand p l e R s m args below meth c T' locs cells slots ∧ T'.heap = h ∧ ∀ target, Steps p.tables e below (T'.setTop { g with pc := g.pc + 3, stack := v :: rest }) target → Steps p.tables e below (T.setTop g) target := by
  obtain ⟨cell, cf, k, i, f, h1, h2, h3, h4, -, -, h7⟩ := F
  have hr := own_ready X hZ hown w h2
  refine ⟨T, X, eT, fun target hrest => ?_⟩
  subst hg
  jvm_step X.here [hx, hd, getfield.wp_ready (e := e) (s := T) (f := g) X.here.top hr h3 hs (by rw [eT]; exact h1) h4 h7]
  exact hrest
theorem own_putFR (X : Stand p l e R s m args below meth c T locs cells slots) (hx : p.tables.exec = Jvm.exec) (hZ : Z.Warmed39 s.vm) {own C n d : String} {index kk : Nat} {ty : FieldType} (hown : s.vm.findClass own = some m.cls) (w : (Jvm.Cond.fieldRef own index C n d).before a0 Z = true)
    (eT : T.heap = h) {a : Addr} {v old : Value} (F : Fld Z h a C n d old) (E : Exa Z h a C) (L : (Jvm.Cond.lays C C n d).before a0 Z = true) (wi : (Jvm.Cond.instantiable C kk).before a0 Z = true)
    (hty : parseFieldDescriptor d = some ty) (hn : narrow ty v = v) (hf : Jvm.fits ty v = true) {g : JFrame} (hg : g.method = m) {rest : List Value} (hs : g.stack = v :: .ref a :: rest) (hd : decode c.code g.pc = .ok (.putfield index, 3)) :
    ∃ T' h', Stand p l e R s m args below meth c T' (locs ++ [⟨a, Jvm.RoadKit.slotOf Z C n d⟩]) cells slots ∧ T'.heap = h' ∧ Wr h h' a (Jvm.RoadKit.slotOf Z C n d) v ∧ ∀ target, Steps p.tables e below (T'.setTop { g with pc := g.pc + 3, stack := rest }) target → Steps p.tables e below (T.setTop g) target := by
  obtain ⟨cell, cf, k, i, f, h1, h2, h3, h4, h5, -, h7⟩ := F
  have hr := own_ready X hZ hown w h2
  have hlt : f.slot < cell.slots.size := (Array.getElem?_eq_some_iff.mp h7).1
  have hslot : Jvm.RoadKit.slotOf Z C n d = f.slot := by simp [Jvm.RoadKit.slotOf, h2]
  have htype : f.type = ty := (State.fieldFound?_type h2 hty).2
  have hsame : Z.vm.Alike T.vm := hZ.alike.trans X.warmed.alike
  obtain ⟨cC, kC, _, _, _, fl, l1, l2, l3, -, l5, -, l7, -⟩ := Cond.lays_spec L
  have hfl : fl = f := by
    have q := Option.some.inj (l3.symm.trans h2)
    exact congrArg (fun z => z.2.2.2) q
  rw [hfl] at l5 l7
  have hcls : cell.cls = cC := by
    obtain ⟨ce, _, q1, q2, -⟩ := E
    have q3 : ce = cell := Option.some.inj (q1.symm.trans h1)
    rw [q3] at q2
    exact Option.some.inj (q2.symm.trans l1)
  have hkind : kC.kind = .ordinary := by
    obtain ⟨c2, k2, i1, i2, i3, -⟩ := Cond.instantiable_spec wi
    have q1 : c2 = cC := Option.some.inj (i1.symm.trans l1)
    rw [q1] at i2
    have q2 : k2 = kC := Option.some.inj (i2.symm.trans l2)
    rw [← q2]; exact i3
  have hZfit : Z.fitsSlot cell.cls cell.vm f.slot v = true := by
    have q : Z.slotType? cell.cls cell.vm f.slot = some ty := by
      rw [hcls]
      unfold State.slotType?
      cases hv : cell.vm with
      | statics c9 => rw [hv] at h5; simp [VmData.isStatics] at h5
      | _ => simp [l2, hkind, l7, htype]
    unfold State.fitsSlot
    rw [q]
    exact hf
  have hTfit : T.fitsSlot cell.cls cell.vm f.slot v = true := by
    have q := State.fitsSlot_setVm (s := Z) (vm' := T.vm) hsame
    exact (congrFun (congrFun (congrFun (congrFun q cell.cls) cell.vm) f.slot) v).trans hZfit
  obtain ⟨X', st⟩ := X.putfieldReady hx hr h3 (Or.inl l5) (by rw [eT]; exact h1) h4 hlt (by rw [htype]; exact hn) hTfit hg hs hd
  rw [hslot]
  exact ⟨_, _, X', rfl, ⟨cell, h1, h5, hlt, by rw [← eT]; rfl⟩, st⟩
theorem own_getFRc {Fe : Outcome → State → List Loc → Prop} {Q : Option Value → Heap → List Loc → Prop} {pc : Nat} {Ls : Array Slot} {st : List Value} (X : Stand p l e R s m args below meth c T locs cells slots) (hx : p.tables.exec = Jvm.exec) (hZ : Z.Warmed39 s.vm) {own C n d : String} {index : Nat} (hown : s.vm.findClass own = some m.cls) (w : (Jvm.Cond.fieldRef own index C n d).before a0 Z = true) (eT : T.heap = h) {a : Addr} {v : Value} (F : Fld Z h a C n d v) (pc' : Nat) (hp : pc + 3 = pc') (hd : decode c.code pc = .ok (.getfield index, 3))
    (k : ∀ T', Stand p l e R s m args below meth c T' locs cells slots → T'.heap = h → own_Go p e below Fe Q (T'.setTop (mkF m pc' Ls (v :: st)))) : own_Go p e below Fe Q (T.setTop (mkF m pc Ls (.ref a :: st))) := by
  subst hp
  obtain ⟨T', X', e', st'⟩ := own_getFR X hx hZ hown w eT F (g := mkF m pc Ls (.ref a :: st)) rfl rfl hd
  exact own_st st' (k T' X' e')
theorem own_putFRc {Fe : Outcome → State → List Loc → Prop} {Q : Option Value → Heap → List Loc → Prop} {pc : Nat} {Ls : Array Slot} {st : List Value} (X : Stand p l e R s m args below meth c T locs cells slots) (hx : p.tables.exec = Jvm.exec) (hZ : Z.Warmed39 s.vm) {own C n d : String} {index kk : Nat} {ty : FieldType} (hown : s.vm.findClass own = some m.cls) (w : (Jvm.Cond.fieldRef own index C n d).before a0 Z = true) (eT : T.heap = h) {a : Addr} {v old : Value} (F : Fld Z h a C n d old) (E : Exa Z h a C) (L : (Jvm.Cond.lays C C n d).before a0 Z = true) (wi : (Jvm.Cond.instantiable C kk).before a0 Z = true)
    (hty : parseFieldDescriptor d = some ty) (hn : narrow ty v = v) (hf : Jvm.fits ty v = true) (pc' : Nat) (hp : pc + 3 = pc') (hd : decode c.code pc = .ok (.putfield index, 3))
    (k : ∀ T' h', Stand p l e R s m args below meth c T' (locs ++ [⟨a, Jvm.RoadKit.slotOf Z C n d⟩]) cells slots → T'.heap = h' → Wr h h' a (Jvm.RoadKit.slotOf Z C n d) v → own_Go p e below Fe Q (T'.setTop (mkF m pc' Ls st))) : own_Go p e below Fe Q (T.setTop (mkF m pc Ls (v :: .ref a :: st))) := by
  subst hp
  obtain ⟨T', h', X', e', W', st'⟩ := own_putFR X hx hZ hown w eT F E L wi hty hn hf (g := mkF m pc Ls (v :: .ref a :: st)) rfl rfl hd
  exact own_st st' (k T' h' X' e' W')
end OwnRef
section OwnArith
theorem own_two (x y : Int64) (h : x.toInt = y.toInt) : x = y := Int64.toInt_inj.mp h
theorem own_l0 : ((0 : Int64)).toInt = 0 := by decide
theorem own_l1 : ((1 : Int64)).toInt = 1 := by decide
theorem own_i0 : ((0 : Int32)).toInt = 0 := by decide
theorem own_i1 : ((1 : Int32)).toInt = 1 := by decide
/-- Math.max(1, i & 0x7fffffff) -/
def own_n (i : Int32) : Int32 := if (1 : Int32) < (i &&& (2147483647 : Int32)) then (i &&& (2147483647 : Int32)) else (1 : Int32)
theorem own_n_rng (i : Int32) : 1 ≤ (own_n i).toInt ∧ (own_n i).toInt ≤ 2147483647 := by
  unfold own_n
  have h0 := c_mask i 2147483647 31 (by decide) (by decide)
  have h1 := own_i1
  split
  · rename_i h
    rw [Int32.lt_iff_toInt_lt] at h
    omega
  · omega
theorem own_n64 (i : Int32) : (own_n i).toInt64.toInt = (own_n i).toInt := c_i2l _
theorem own_n64_nz (i : Int32) : ¬ (own_n i).toInt64 = 0 := fun e => by
  have h := own_n_rng i
  have h2 := own_n64 i
  rw [e, own_l0] at h2
  omega
theorem own_n64_m1 (i : Int32) : (own_n i).toInt64 ≠ -1 := fun e => by
  have h := own_n_rng i
  have h2 := own_n64 i
  rw [e] at h2
  have : ((-1 : Int64)).toInt = -1 := by decide
  omega
theorem own_divN {x n : Int64} (hx : 0 ≤ x.toInt) (hn : 0 < n.toInt) : (x / n).toInt = x.toInt / n.toInt := (c_ldiv x n n.toInt rfl (fun e => by
  rw [e] at hn
  have : ((-1 : Int64)).toInt = -1 := by decide
  omega)).1 hx
theorem own_modN {x n : Int64} (hx : 0 ≤ x.toInt) : (x % n).toInt = x.toInt % n.toInt := by
  rw [Int64.toInt_mod, Int.tmod_eq_emod_of_nonneg hx]
/-- one period more: a + f / N and q + r / N -/
theorem own_addp {a q r n : Int64} {f : Int32} (n0 : 0 < n.toInt) (n1 : n.toInt ≤ 2147483647) (r0 : 0 ≤ r.toInt) (r1 : r.toInt < n.toInt) (f0 : 0 ≤ f.toInt) (f1 : f.toInt < n.toInt)
    (b0 : 0 ≤ a.toInt) (q0 : 0 ≤ q.toInt) (b1 : a.toInt + q.toInt + 1 ≤ 9223372036854775807) :
    (a + (q + (f.toInt64 + r) / n)).toInt = a.toInt + q.toInt + (f.toInt + r.toInt) / n.toInt ∧ (((f.toInt64 + r) % n).toInt32).toInt = (f.toInt + r.toInt) % n.toInt := by
  have hf := c_i2l f
  have e1 : (f.toInt64 + r).toInt = f.toInt + r.toInt := by rw [FP.Core.int64_add (by rw [hf]; omega) (by rw [hf]; omega), hf]
  have e2 : ((f.toInt64 + r) / n).toInt = (f.toInt + r.toInt) / n.toInt := by rw [own_divN (by rw [e1]; omega) n0, e1]
  have e3 : ((f.toInt64 + r) % n).toInt = (f.toInt + r.toInt) % n.toInt := by rw [own_modN (by rw [e1]; omega), e1]
  have d0 : 0 ≤ (f.toInt + r.toInt) / n.toInt := Int.ediv_nonneg (by omega) (by omega)
  have d1 : (f.toInt + r.toInt) / n.toInt ≤ 1 := by
    have := (Int.ediv_lt_iff_lt_mul n0 (a := f.toInt + r.toInt) (b := 2)).mpr (by omega)
    omega
  have m0 := Int.emod_nonneg (f.toInt + r.toInt) (b := n.toInt) (by omega)
  have m1 := Int.emod_lt_of_pos (f.toInt + r.toInt) (b := n.toInt) n0
  constructor
  · have e4 : (q + (f.toInt64 + r) / n).toInt = q.toInt + (f.toInt + r.toInt) / n.toInt := by rw [FP.Core.int64_add (by rw [e2]; omega) (by rw [e2]; omega), e2]
    rw [FP.Core.int64_add (by rw [e4]; omega) (by rw [e4]; omega), e4]
    omega
  · have h := c_l2i ((f.toInt64 + r) % n)
    have k := rng32 (((f.toInt64 + r) % n).toInt32)
    omega
/-- what roundedUp answers -/
def own_up (a : Int64) (f : Int32) : Int64 := if 0 < f then a + (1 : Int64) else a
theorem own_up_val {a : Int64} {f : Int32} (h : a.toInt + 1 ≤ 9223372036854775807) (h0 : 0 ≤ a.toInt) : (own_up a f).toInt = a.toInt + (if 0 < f.toInt then 1 else 0) := by
  unfold own_up
  have k : 0 < f ↔ 0 < f.toInt := by rw [Int32.lt_iff_toInt_lt, own_i0]
  by_cases q : 0 < f
  · rw [if_pos q, if_pos (k.mp q), FP.Core.int64_add (by rw [own_l1]; omega) (by rw [own_l1]; omega), own_l1]
  · rw [if_neg q, if_neg (fun z => q (k.mpr z)), Int.add_zero]
/-- what compareUnsigned answers -/
def own_cu (x y : Int64) : Int32 := if x + (-9223372036854775808 : Int64) < y + (-9223372036854775808 : Int64) then (-1 : Int32) else if x + (-9223372036854775808 : Int64) = y + (-9223372036854775808 : Int64) then 0 else 1
theorem own_cu_min {x : Int64} (h : 0 ≤ x.toInt) : (x + (-9223372036854775808 : Int64)).toInt = x.toInt - 9223372036854775808 := by
  have k : ((-9223372036854775808 : Int64)).toInt = -9223372036854775808 := by decide
  have r := rng64 x
  have q := c_ladd x (-9223372036854775808)
  have r2 := rng64 (x + (-9223372036854775808 : Int64))
  omega
theorem own_cu_le {x y : Int64} (hx : 0 ≤ x.toInt) (hy : 0 ≤ y.toInt) (h : x.toInt ≤ y.toInt) : ¬ 0 < own_cu x y := by
  unfold own_cu
  have e1 := own_cu_min hx
  have e2 := own_cu_min hy
  by_cases q : x.toInt = y.toInt
  · rw [if_neg (by rw [Int64.lt_iff_toInt_lt]; omega), if_pos (Int64.toInt_inj.mp (by omega))]; decide
  · rw [if_pos (by rw [Int64.lt_iff_toInt_lt]; omega)]; decide
theorem own_cu_gt {x y : Int64} (hx : 0 ≤ x.toInt) (hy : 0 ≤ y.toInt) (h : y.toInt < x.toInt) : 0 < own_cu x y := by
  unfold own_cu
  have e1 := own_cu_min hx
  have e2 := own_cu_min hy
  rw [if_neg (by rw [Int64.lt_iff_toInt_lt]; omega), if_neg (fun z => by rw [z] at e1; omega)]; decide
theorem own_back (t p : Int64) : t + p - t = p := by
  refine Int64.toInt_inj.mp ?_
  have h1 := c_ladd t p
  have h2 := c_lsub (t + p) t
  have h3 := rng64 (t + p - t)
  have h4 := rng64 p
  omega
/-- floors and remainders, step by step -/
theorem own_step {N A R : Int} (h : 0 < N) : A / N + (A % N + R) / N = (A + R) / N ∧ (A % N + R) % N = (A + R) % N := by
  have e : A + R = (A % N + R) + N * (A / N) := by have := Int.emod_add_mul_ediv A N; omega
  constructor
  · rw [e, Int.add_mul_ediv_left _ _ (by omega)]
    omega
  · rw [e, Int.add_mul_emod_self_left]
end OwnArith
section OwnLaw
def own_ms (j : Int64) : Int64 := (1 : Int64) + ((j &&& (9223372036854775807 : Int64)) % (9223372036854 : Int64))
theorem own_ms_rng (j : Int64) : 1 ≤ (own_ms j).toInt ∧ (own_ms j).toInt ≤ 9223372036854 := by
  unfold own_ms
  have h0 := c_maskL j 9223372036854775807 63 (by decide) (by decide)
  have h1 : ((9223372036854 : Int64)).toInt = 9223372036854 := by decide
  have h2 : ((j &&& (9223372036854775807 : Int64)) % (9223372036854 : Int64)).toInt = (j.toInt % ((2 ^ 63 : Nat) : Int)) % 9223372036854 := by rw [own_modN (by rw [h0]; omega), h0, h1]
  have h3 := own_l1
  rw [FP.Core.int64_add (by rw [h2, h3]; omega) (by rw [h2, h3]; omega), h2, h3]
  omega
def own_w (j : Int64) : Int64 := own_ms j * (1000000 : Int64)
theorem own_w_val (j : Int64) : (own_w j).toInt = (own_ms j).toInt * 1000000 := by
  have h := own_ms_rng j
  have h1 : ((1000000 : Int64)).toInt = 1000000 := by decide
  unfold own_w
  rw [FP.Core.int64_mul (by rw [h1]; omega) (by rw [h1]; omega), h1]
theorem own_w_rng (j : Int64) : 1000000 ≤ (own_w j).toInt ∧ (own_w j).toInt ≤ 9223372036854000000 := by
  have h := own_ms_rng j
  rw [own_w_val]; omega
variable (i : Int32) (j : Int64)
def own_q : Int64 := own_w j / (own_n i).toInt64
def own_r : Int64 := own_w j % (own_n i).toInt64
theorem own_q_val : (own_q i j).toInt = (own_w j).toInt / (own_n i).toInt := by
  have h1 := own_w_rng j
  have h2 := own_n_rng i
  unfold own_q
  rw [own_divN (by omega) (by rw [own_n64]; omega), own_n64]
theorem own_r_val : (own_r i j).toInt = (own_w j).toInt % (own_n i).toInt := by
  have h1 := own_w_rng j
  unfold own_r
  rw [own_modN (by omega), own_n64]
theorem own_qr : 0 ≤ (own_q i j).toInt ∧ 0 ≤ (own_r i j).toInt ∧ (own_r i j).toInt < (own_n i).toInt ∧ (own_n i).toInt * (own_q i j).toInt ≤ (own_w j).toInt := by
  have h1 := own_w_rng j
  have h2 := own_n_rng i
  rw [own_q_val, own_r_val]
  refine ⟨Int.ediv_nonneg (by omega) (by omega), Int.emod_nonneg _ (by omega), Int.emod_lt_of_pos _ (by omega), Int.mul_ediv_self_le (by omega)⟩
theorem own_q1 : (own_q i j).toInt ≤ (own_w j).toInt := by
  have h1 := own_w_rng j
  have h2 := own_n_rng i
  rw [own_q_val]; exact Int.ediv_le_self _ (by omega)
theorem own_q2 (h : 2 ≤ (own_n i).toInt) : 2 * (own_q i j).toInt ≤ (own_w j).toInt := by
  obtain ⟨h1, -, -, h4⟩ := own_qr i j
  exact Int.le_trans (Int.mul_le_mul_of_nonneg_right h h1) h4
theorem own_q3 (h : 3 ≤ (own_n i).toInt) : 3 * (own_q i j).toInt ≤ (own_w j).toInt := by
  obtain ⟨h1, -, -, h4⟩ := own_qr i j
  exact Int.le_trans (Int.mul_le_mul_of_nonneg_right h h1) h4
def own_t (t : Int64) : Int64 := if ((9223372036854775807 : Int64) - own_w j) < t then ((9223372036854775807 : Int64) - own_w j) else t
def own_p (z : Int64) : Int64 := (z &&& (9223372036854775807 : Int64)) % (own_q i j + (1 : Int64))
theorem own_qp1 : (own_q i j + (1 : Int64)).toInt = (own_q i j).toInt + 1 := by
  have h1 := own_w_rng j
  have h2 := own_q1 i j
  have h3 := (own_qr i j).1
  have h4 := own_l1
  rw [FP.Core.int64_add (by omega) (by omega), h4]
theorem own_qp1_nz : ¬ (own_q i j + (1 : Int64)) = 0 := fun e => by
  have h1 := own_qp1 i j
  have h3 := (own_qr i j).1
  rw [e, own_l0] at h1
  omega
theorem own_p_rng (z : Int64) : 0 ≤ (own_p i j z).toInt ∧ (own_p i j z).toInt ≤ (own_q i j).toInt := by
  unfold own_p
  have h0 := c_maskL z 9223372036854775807 63 (by decide) (by decide)
  have h3 := (own_qr i j).1
  rw [own_modN (by rw [h0]; omega), own_qp1]
  have := Int.emod_nonneg (z &&& (9223372036854775807 : Int64)).toInt (b := (own_q i j).toInt + 1) (by omega)
  have := Int.emod_lt_of_pos (z &&& (9223372036854775807 : Int64)).toInt (b := (own_q i j).toInt + 1) (by omega)
  omega
/-- what ceilOfPeriods answers -/
def own_ceil (k q r n : Int64) : Int64 := (k * q + (k * r) / n) + (if (k * r) % n = (0 : Int64) then (0 : Int64) else (1 : Int64))
theorem own_ceil_val {k q r n : Int64} {K : Int} (hk : k.toInt = K) (k0 : 0 ≤ K) (k3 : K ≤ 3) (n0 : 0 < n.toInt) (n1 : n.toInt ≤ 2147483647) (r0 : 0 ≤ r.toInt) (r1 : r.toInt < n.toInt) (q0 : 0 ≤ q.toInt) (q1 : K * q.toInt ≤ 9223372036854000000) :
    (own_ceil k q r n).toInt = K * q.toInt + (K * r.toInt) / n.toInt + (if 0 < (K * r.toInt) % n.toInt then 1 else 0) := by
  have b1 : 0 ≤ K * r.toInt := Int.mul_nonneg k0 r0
  have b2 : K * r.toInt ≤ 3 * 2147483647 := Int.mul_le_mul k3 (by omega) r0 (by omega)
  have b3 : 0 ≤ K * q.toInt := Int.mul_nonneg k0 q0
  have e1 : (k * r).toInt = K * r.toInt := by rw [FP.Core.int64_mul (by rw [hk]; omega) (by rw [hk]; omega), hk]
  have e2 : (k * q).toInt = K * q.toInt := by rw [FP.Core.int64_mul (by rw [hk]; omega) (by rw [hk]; omega), hk]
  have e3 : ((k * r) / n).toInt = (K * r.toInt) / n.toInt := by rw [own_divN (by rw [e1]; omega) n0, e1]
  have e4 : ((k * r) % n).toInt = (K * r.toInt) % n.toInt := by rw [own_modN (by rw [e1]; omega), e1]
  have d0 : 0 ≤ (K * r.toInt) / n.toInt := Int.ediv_nonneg b1 (by omega)
  have d1 : (K * r.toInt) / n.toInt ≤ K := Int.ediv_le_of_le_mul (by omega) (Int.mul_le_mul_of_nonneg_left (by omega) (by omega))
  have e5 : (k * q + (k * r) / n).toInt = K * q.toInt + (K * r.toInt) / n.toInt := by rw [FP.Core.int64_add (by rw [e2, e3]; omega) (by rw [e2, e3]; omega), e2, e3]
  have m0 := Int.emod_nonneg (K * r.toInt) (b := n.toInt) (by omega)
  unfold own_ceil
  by_cases z : (k * r) % n = (0 : Int64)
  · have z' : (K * r.toInt) % n.toInt = 0 := by rw [← e4, z, own_l0]
    rw [if_pos z, if_neg (by omega), FP.Core.int64_add (by rw [e5, own_l0]; omega) (by rw [e5, own_l0]; omega), e5, own_l0]
  · have z' : (K * r.toInt) % n.toInt ≠ 0 := fun q => z (Int64.toInt_inj.mp (by rw [e4, q, own_l0]))
    rw [if_neg z, if_pos (by omega), FP.Core.int64_add (by rw [e5, own_l1]; omega) (by rw [e5, own_l1]; omega), e5, own_l1]
/-- the debt behind one, two, three periods -/
def own_a1 : Int64 := (0 : Int64) + (own_q i j + ((0 : Int32).toInt64 + own_r i j) / (own_n i).toInt64)
def own_f1 : Int32 := ((((0 : Int32).toInt64 + own_r i j) % (own_n i).toInt64).toInt32)
variable (t z : Int64)
def own_b1 : Int64 := own_a1 i j - ((own_t j t + own_p i j z) - own_t j t)
def own_a2 : Int64 := own_b1 i j t z + (own_q i j + ((own_f1 i j).toInt64 + own_r i j) / (own_n i).toInt64)
def own_f2 : Int32 := ((((own_f1 i j).toInt64 + own_r i j) % (own_n i).toInt64).toInt32)
def own_a3 : Int64 := own_a2 i j t z + (own_q i j + ((own_f2 i j).toInt64 + own_r i j) / (own_n i).toInt64)
def own_f3 : Int32 := ((((own_f2 i j).toInt64 + own_r i j) % (own_n i).toInt64).toInt32)
theorem own_s1 : (own_a1 i j).toInt = (own_q i j).toInt ∧ (own_f1 i j).toInt = (own_r i j).toInt := by
  obtain ⟨h1, h2, h3, h4⟩ := own_qr i j
  have h5 := own_n_rng i
  have h6 := own_n64 i
  have h7 := own_w_rng j
  have h8 := own_q1 i j
  have k := own_addp (a := 0) (q := own_q i j) (r := own_r i j) (n := (own_n i).toInt64) (f := 0) (by omega) (by omega) h2 (by omega) (by rw [own_i0]; exact Int.le_refl _) (by rw [own_i0]; omega) (by rw [own_l0]; exact Int.le_refl _) h1 (by rw [own_l0]; omega)
  rw [own_l0, own_i0, h6, Int.zero_add, Int.zero_add, Int.ediv_eq_zero_of_lt h2 h3, Int.emod_eq_of_lt h2 h3, Int.add_zero] at k
  exact k
theorem own_sb1 : (own_b1 i j t z).toInt = (own_q i j).toInt - (own_p i j z).toInt := by
  have h1 := own_p_rng i j z
  have h2 := (own_s1 i j).1
  have h3 := own_w_rng j
  have h4 := own_q1 i j
  unfold own_b1
  rw [own_back, FP.Core.int64_sub (by omega) (by omega), h2]
theorem own_s2 (hn : 2 ≤ (own_n i).toInt) : (own_a2 i j t z).toInt = 2 * (own_q i j).toInt - (own_p i j z).toInt + (2 * (own_r i j).toInt) / (own_n i).toInt ∧ (own_f2 i j).toInt = (2 * (own_r i j).toInt) % (own_n i).toInt := by
  obtain ⟨h1, h2, h3, h4⟩ := own_qr i j
  obtain ⟨s1, s2⟩ := own_s1 i j
  have h5 := own_n_rng i
  have h6 := own_n64 i
  have h7 := own_w_rng j
  have h8 := own_q2 i j hn
  have h9 := own_p_rng i j z
  have h10 := own_sb1 i j t z
  have k := own_addp (a := own_b1 i j t z) (q := own_q i j) (r := own_r i j) (n := (own_n i).toInt64) (f := own_f1 i j) (by omega) (by omega) h2 (by omega) (by omega) (by omega) (by omega) h1 (by omega)
  rw [h6, s2, h10, show (own_r i j).toInt + (own_r i j).toInt = 2 * (own_r i j).toInt by omega, show (own_q i j).toInt - (own_p i j z).toInt + (own_q i j).toInt = 2 * (own_q i j).toInt - (own_p i j z).toInt by omega] at k
  exact k
theorem own_nxp {q r n a : Int64} {f : Int32} {K P : Int} (s1 : a.toInt = K * q.toInt - P + (K * r.toInt) / n.toInt) (s2 : f.toInt = (K * r.toInt) % n.toInt) (k0 : 0 ≤ K) (k2 : K ≤ 2) (n0 : 0 < n.toInt) (n1 : n.toInt ≤ 2147483647) (r0 : 0 ≤ r.toInt) (r1 : r.toInt < n.toInt) (q0 : 0 ≤ q.toInt) (p0 : 0 ≤ P) (p1 : P ≤ K * q.toInt) (h8 : (K + 1) * q.toInt ≤ 9223372036854000000) :
    (a + (q + (f.toInt64 + r) / n)).toInt = (K + 1) * q.toInt - P + ((K + 1) * r.toInt) / n.toInt ∧ (((f.toInt64 + r) % n).toInt32).toInt = ((K + 1) * r.toInt) % n.toInt := by
  have b1 : 0 ≤ K * r.toInt := Int.mul_nonneg k0 r0
  have m0 := Int.emod_nonneg (K * r.toInt) (b := n.toInt) (by omega)
  have m1 := Int.emod_lt_of_pos (K * r.toInt) (b := n.toInt) n0
  have d0 : 0 ≤ (K * r.toInt) / n.toInt := Int.ediv_nonneg b1 (by omega)
  have d1 : (K * r.toInt) / n.toInt ≤ K := Int.ediv_le_of_le_mul n0 (Int.mul_le_mul_of_nonneg_left (by omega) k0)
  have eq1 : (K + 1) * q.toInt = K * q.toInt + q.toInt := by rw [Int.add_mul, Int.one_mul]
  have er1 : (K + 1) * r.toInt = K * r.toInt + r.toInt := by rw [Int.add_mul, Int.one_mul]
  obtain ⟨g1, g2⟩ := own_step (N := n.toInt) (A := K * r.toInt) (R := r.toInt) n0
  have k := own_addp (a := a) (q := q) (r := r) (n := n) (f := f) n0 n1 r0 r1 (by omega) (by omega) (by omega) q0 (by omega)
  rw [s2, s1] at k
  obtain ⟨kk1, kk2⟩ := k
  rw [eq1, er1]
  refine ⟨kk1.trans ?_, kk2.trans g2⟩
  clear kk1 kk2
  omega
theorem own_s3 (hn : 3 ≤ (own_n i).toInt) : (own_a3 i j t z).toInt = 3 * (own_q i j).toInt - (own_p i j z).toInt + (3 * (own_r i j).toInt) / (own_n i).toInt ∧ (own_f3 i j).toInt = (3 * (own_r i j).toInt) % (own_n i).toInt := by
  obtain ⟨h1, h2, h3, -⟩ := own_qr i j
  obtain ⟨s1, s2⟩ := own_s2 i j t z (Int.le_trans (by decide) hn)
  have h5 := own_n_rng i
  have h6 := own_n64 i
  have h8 := own_q3 i j hn
  have h7 := own_w_rng j
  have h9 := own_p_rng i j z
  have c := own_nxp (q := own_q i j) (r := own_r i j) (n := (own_n i).toInt64) (a := own_a2 i j t z) (f := own_f2 i j) (K := 2) (P := (own_p i j z).toInt) (by rw [h6]; exact s1) (by rw [h6]; exact s2) (by decide) (by decide) (by rw [h6]; exact Int.lt_of_lt_of_le (by decide) h5.1) (by rw [h6]; exact h5.2) h2 (by rw [h6]; exact h3) h1 h9.1 (by have := h9.2; omega) (Int.le_trans h8 h7.2)
  rw [h6] at c
  exact c
theorem own_e1 : own_up (own_a1 i j) (own_f1 i j) = own_ceil (1 : Int64) (own_q i j) (own_r i j) (own_n i).toInt64 := by
  obtain ⟨h1, h2, h3, h4⟩ := own_qr i j
  obtain ⟨s1, s2⟩ := own_s1 i j
  have h5 := own_n_rng i
  have h6 := own_n64 i
  have h7 := own_w_rng j
  have h8 := own_q1 i j
  refine Int64.toInt_inj.mp ?_
  rw [own_up_val (by omega) (by omega), own_ceil_val (K := 1) own_l1 (by decide) (by decide) (by omega) (by omega) h2 (by omega) h1 (by omega), h6, s1, s2, Int.one_mul, Int.one_mul, Int.ediv_eq_zero_of_lt h2 h3, Int.emod_eq_of_lt h2 h3, Int.add_zero]
theorem own_ek {a q r n p k : Int64} {f : Int32} {K : Int} (hk : k.toInt = K) (k0 : 0 ≤ K) (k3 : K ≤ 3) (n0 : 0 < n.toInt) (n1 : n.toInt ≤ 2147483647) (r0 : 0 ≤ r.toInt) (r1 : r.toInt < n.toInt) (q0 : 0 ≤ q.toInt) (q1 : K * q.toInt ≤ 9223372036854000000)
    (sa : a.toInt = K * q.toInt - p.toInt + (K * r.toInt) / n.toInt) (sf : f.toInt = (K * r.toInt) % n.toInt) (p0 : 0 ≤ p.toInt) (p1 : p.toInt ≤ K * q.toInt) : own_up a f = own_ceil k q r n - p := by
  have c := own_ceil_val hk k0 k3 n0 n1 r0 r1 q0 q1
  have d0 : 0 ≤ (K * r.toInt) / n.toInt := Int.ediv_nonneg (Int.mul_nonneg k0 r0) (by omega)
  have d1 : (K * r.toInt) / n.toInt ≤ K := Int.ediv_le_of_le_mul (by omega) (Int.mul_le_mul_of_nonneg_left (by omega) k0)
  have u := own_up_val (a := a) (f := f) (by omega) (by omega)
  refine Int64.toInt_inj.mp ?_
  have v := c_lsub (own_ceil k q r n) p
  have v2 := rng64 (own_ceil k q r n - p)
  rw [sa, sf] at u
  generalize own_up a f = U at *
  generalize own_ceil k q r n = C at *
  generalize (K * r.toInt) / n.toInt = D at *
  generalize (K * r.toInt) % n.toInt = M at *
  generalize K * q.toInt = KQ at *
  by_cases hM : 0 < M
  · rw [if_pos hM] at u c
    omega
  · rw [if_neg hM] at u c
    omega
theorem own_e2 (hn : 2 ≤ (own_n i).toInt) : own_up (own_a2 i j t z) (own_f2 i j) = own_ceil (2 : Int64) (own_q i j) (own_r i j) (own_n i).toInt64 - own_p i j z := by
  obtain ⟨h1, h2, h3, -⟩ := own_qr i j
  obtain ⟨s1, s2⟩ := own_s2 i j t z hn
  have h5 := own_n_rng i
  have h6 := own_n64 i
  have h7 := own_w_rng j
  have h8 := own_q2 i j hn
  have h9 := own_p_rng i j z
  exact own_ek (K := 2) (by decide) (by decide) (by decide) (by omega) (by omega) h2 (by omega) h1 (by omega) (by rw [h6]; exact s1) (by rw [h6]; exact s2) h9.1 (by omega)
theorem own_e3 (hn : 3 ≤ (own_n i).toInt) : own_up (own_a3 i j t z) (own_f3 i j) = own_ceil (3 : Int64) (own_q i j) (own_r i j) (own_n i).toInt64 - own_p i j z := by
  obtain ⟨h1, h2, h3, -⟩ := own_qr i j
  obtain ⟨s1, s2⟩ := own_s3 i j t z hn
  have h5 := own_n_rng i
  have h6 := own_n64 i
  have h7 := own_w_rng j
  have h8 := own_q3 i j hn
  have h9 := own_p_rng i j z
  exact own_ek (K := 3) (by decide) (by decide) (by decide) (by omega) (by omega) h2 (by omega) h1 (by omega) (by rw [h6]; exact s1) (by rw [h6]; exact s2) h9.1 (by omega)
theorem own_nocu : ¬ 0 < own_cu ((own_t j t + own_p i j z) - own_t j t) (own_a1 i j) := by
  have h9 := own_p_rng i j z
  have s1 := (own_s1 i j).1
  rw [own_back]
  exact own_cu_le (by omega) (by omega) (by omega)
theorem own_n_pos : 0 < own_n i := by
  rw [Int32.lt_iff_toInt_lt, own_i0]; have := own_n_rng i; omega
theorem own_n_ne : own_n i ≠ 0 := fun e => by
  have h := own_n_rng i
  rw [e, own_i0] at h; omega
theorem own_ms_pos : 0 < own_ms j := by
  rw [Int64.lt_iff_toInt_lt, own_l0]; have := own_ms_rng j; omega
theorem own_ms_le : ¬ (9223372036854 : Int64) < own_ms j := by
  have h : ((9223372036854 : Int64)).toInt = 9223372036854 := by decide
  rw [Int64.lt_iff_toInt_lt, h]; have := own_ms_rng j; omega
theorem own_ge {k : Int32} {K : Int} (hk : k.toInt = K) (h : ¬ own_n i < k) : K ≤ (own_n i).toInt := by
  rw [Int32.lt_iff_toInt_lt, hk] at h; omega
end OwnLaw
theorem own_ef_rm_maxI (m : MethodId) (a : Int32) (b : Int32) : entryFrame m #[(.int a), (.int b)] 2 = mkF m 0 #[.val (.int a), .val (.int b)] [] := by first | (simp [entryFrame, mkF, argsToLocals, Value.category]; done) | rfl
def Q_rm_maxI (Z : State) (a : Int32) (b : Int32) (r : Int32) (h0 : Heap) (n0 : Nat) (v : Option Value) (h : Heap) (L : List Loc) : Prop := v = some (.int r) ∧ Fr n0 L ∧ h = h0
theorem own_d1_0 : decode jdk_29_method_65_code 0 = .ok (.iload_n 0, 1) := by decide +kernel
theorem own_d1_1 : decode jdk_29_method_65_code 1 = .ok (.iload_n 1, 1) := by decide +kernel
theorem own_d1_2 : decode jdk_29_method_65_code 2 = .ok (.if_icmp .lt 7, 3) := by decide +kernel
theorem own_d1_9 : decode jdk_29_method_65_code 9 = .ok (.iload_n 1, 1) := by decide +kernel
theorem own_d1_10 : decode jdk_29_method_65_code 10 = .ok (.ireturn, 1) := by decide +kernel
theorem own_d1_5 : decode jdk_29_method_65_code 5 = .ok (.iload_n 0, 1) := by decide +kernel
theorem own_d1_6 : decode jdk_29_method_65_code 6 = .ok (.goto 4, 3) := by decide +kernel
set_option maxRecDepth 65536 in
set_option maxHeartbeats 40000000 in
theorem rm_maxI (l : Launch) (Z : State) (a0 : Array Value) (hw : ∀ d ∈ tables_1, d.before a0 Z = true) (ws : List Jvm.Cond) (a : Int32) (b : Int32) (r : Int32) (h0 : Heap) (n0 : Nat) (Z0 : n0 ≤ h0.size) (hres : (if a < b then b else a) = r) :
    MetFree l (⟨"java/lang/Math", "max", "(II)I"⟩ : MethodName) (head1 (Jvm.Cond.code (⟨"java/lang/Math", "max", "(II)I"⟩ : MethodName) jdk_29_method_65_code 2 (some .int) :: ws) ({ frames := 0, cells := 0, slots := 0, locals := 0 } : Room)) (fun aa U => aa = #[(.int a), (.int b)] ∧ Z.Warmed39 U.vm ∧ U.heap = h0) (fun _ _ _ _ _ => True) (fun _ U ou U' => ∃ v L, ou = .returned v ∧ Q_rm_maxI Z a b r h0 n0 v U'.heap L ∧ FrameEnd U ou U' L ({ frames := 0, cells := 0, slots := 0, locals := 0 } : Room).cells ({ frames := 0, cells := 0, slots := 0, locals := 0 } : Room).slots) := by
  refine MetFree.of_bodySF (Jvm.Free.JP.mathPlain rfl (by decide +kernel)) hisR ?_
  intro p e s m args below meth c s₁ Bd hml0 hP hK
  obtain ⟨rfl, hZ, hh⟩ := hP
  have hx := Bd.exec
  have hby := Bd.bytes
  have hml : c.maxLocals = 2 := hml0
  have hown : s.vm.findClass "java/lang/Math" = some m.cls := findClass_of_methodNamed Bd.named
  have hnm := (name_of_methodNamed Bd.named Bd.method).1
  have X0 : Stand p l e ({ frames := 0, cells := 0, slots := 0, locals := 0 } : Room) s m #[(.int a), (.int b)] below meth c s₁ [] 0 0 := Stand.of_body Bd
  have e0 : s₁.heap = h0 := by rw [← hh, Bd.state]; rfl
  have N0 := Fr.nil n0
  show own_Go p e below (fun o u L => FrameEnd s o u L ({ frames := 0, cells := 0, slots := 0, locals := 0 } : Room).cells ({ frames := 0, cells := 0, slots := 0, locals := 0 } : Room).slots) (Q_rm_maxI Z a b r h0 n0) (s₁.setTop (entryFrame m #[(.int a), (.int b)] 2))
  rw [own_ef_rm_maxI m a b]
  show own_Go _ _ _ _ _ (State.setTop _ (mkF _ 0 #[.val (.int a), .val (.int b)] []))
  refine own_iloadN X0 hx 1 rfl (hb hby own_d1_0) rfl ?_
  refine own_iloadN X0 hx 2 rfl (hb hby own_d1_1) rfl ?_
  by_cases hc101 : a < b
  ·
    refine own_icmpYes X0 hx 9 (hb hby own_d1_2) (tlt hc101).1 (by decide) rfl ?_
    refine own_iloadN X0 hx 10 rfl (hb hby own_d1_9) rfl ?_
    refine own_ret X0 (some (.int b)) (fun h => by rw [Bd.returns] at h; cases h) Bd.notSynchronized (by decide) (by decide) ?_ (fun fs hr => own_retI X0 hx Bd.returns (hb hby own_d1_10) hr)
    show Q_rm_maxI Z a b r h0 n0 _ s₁.heap _
    rw [e0]
    exact ⟨by rw [← hres, if_pos hc101], N0, rfl⟩
  ·
    refine own_icmpNo X0 hx 5 rfl (hb hby own_d1_2) (flt hc101).1 ?_
    refine own_iloadN X0 hx 6 rfl (hb hby own_d1_5) rfl ?_
    refine own_goto X0 hx 10 (hb hby own_d1_6) (by decide) rfl ?_
    refine own_ret X0 (some (.int a)) (fun h => by rw [Bd.returns] at h; cases h) Bd.notSynchronized (by decide) (by decide) ?_ (fun fs hr => own_retI X0 hx Bd.returns (hb hby own_d1_10) hr)
    show Q_rm_maxI Z a b r h0 n0 _ s₁.heap _
    rw [e0]
    exact ⟨by rw [← hres, if_neg hc101], N0, rfl⟩
theorem own_ef_rm_minJ (m : MethodId) (a : Int64) (b : Int64) : entryFrame m #[(.long a), (.long b)] 4 = mkF m 0 #[.val (.long a), .second, .val (.long b), .second] [] := by first | (simp [entryFrame, mkF, argsToLocals, Value.category]; done) | rfl
def Q_rm_minJ (Z : State) (a : Int64) (b : Int64) (r : Int64) (h0 : Heap) (n0 : Nat) (v : Option Value) (h : Heap) (L : List Loc) : Prop := v = some (.long r) ∧ Fr n0 L ∧ h = h0
theorem own_d2_0 : decode jdk_29_method_70_code 0 = .ok (.lload_n 0, 1) := by decide +kernel
theorem own_d2_1 : decode jdk_29_method_70_code 1 = .ok (.lload_n 2, 1) := by decide +kernel
theorem own_d2_2 : decode jdk_29_method_70_code 2 = .ok (.lcmp, 1) := by decide +kernel
theorem own_d2_3 : decode jdk_29_method_70_code 3 = .ok (.ifCond .gt 7, 3) := by decide +kernel
theorem own_d2_10 : decode jdk_29_method_70_code 10 = .ok (.lload_n 2, 1) := by decide +kernel
theorem own_d2_11 : decode jdk_29_method_70_code 11 = .ok (.lreturn, 1) := by decide +kernel
theorem own_d2_6 : decode jdk_29_method_70_code 6 = .ok (.lload_n 0, 1) := by decide +kernel
theorem own_d2_7 : decode jdk_29_method_70_code 7 = .ok (.goto 4, 3) := by decide +kernel
set_option maxRecDepth 65536 in
set_option maxHeartbeats 40000000 in
theorem rm_minJ (l : Launch) (Z : State) (a0 : Array Value) (hw : ∀ d ∈ tables_1, d.before a0 Z = true) (ws : List Jvm.Cond) (a : Int64) (b : Int64) (r : Int64) (h0 : Heap) (n0 : Nat) (Z0 : n0 ≤ h0.size) (hres : (if b < a then b else a) = r) :
    MetFree l (⟨"java/lang/Math", "min", "(JJ)J"⟩ : MethodName) (head1 (Jvm.Cond.code (⟨"java/lang/Math", "min", "(JJ)J"⟩ : MethodName) jdk_29_method_70_code 4 (some .long) :: ws) ({ frames := 0, cells := 0, slots := 0, locals := 0 } : Room)) (fun aa U => aa = #[(.long a), (.long b)] ∧ Z.Warmed39 U.vm ∧ U.heap = h0) (fun _ _ _ _ _ => True) (fun _ U ou U' => ∃ v L, ou = .returned v ∧ Q_rm_minJ Z a b r h0 n0 v U'.heap L ∧ FrameEnd U ou U' L ({ frames := 0, cells := 0, slots := 0, locals := 0 } : Room).cells ({ frames := 0, cells := 0, slots := 0, locals := 0 } : Room).slots) := by
  refine MetFree.of_bodySF (Jvm.Free.JP.mathPlain rfl (by decide +kernel)) hisR ?_
  intro p e s m args below meth c s₁ Bd hml0 hP hK
  obtain ⟨rfl, hZ, hh⟩ := hP
  have hx := Bd.exec
  have hby := Bd.bytes
  have hml : c.maxLocals = 4 := hml0
  have hown : s.vm.findClass "java/lang/Math" = some m.cls := findClass_of_methodNamed Bd.named
  have hnm := (name_of_methodNamed Bd.named Bd.method).1
  have X0 : Stand p l e ({ frames := 0, cells := 0, slots := 0, locals := 0 } : Room) s m #[(.long a), (.long b)] below meth c s₁ [] 0 0 := Stand.of_body Bd
  have e0 : s₁.heap = h0 := by rw [← hh, Bd.state]; rfl
  have N0 := Fr.nil n0
  show own_Go p e below (fun o u L => FrameEnd s o u L ({ frames := 0, cells := 0, slots := 0, locals := 0 } : Room).cells ({ frames := 0, cells := 0, slots := 0, locals := 0 } : Room).slots) (Q_rm_minJ Z a b r h0 n0) (s₁.setTop (entryFrame m #[(.long a), (.long b)] 4))
  rw [own_ef_rm_minJ m a b]
  show own_Go _ _ _ _ _ (State.setTop _ (mkF _ 0 #[.val (.long a), .second, .val (.long b), .second] []))
  refine own_lloadN X0 hx 1 rfl (hb hby own_d2_0) rfl ?_
  refine own_lloadN X0 hx 2 rfl (hb hby own_d2_1) rfl ?_
  refine own_lcmp X0 hx 3 rfl (hb hby own_d2_2) _ rfl ?_
  by_cases hc102 : b < a
  ·
    refine own_ifYes X0 hx 10 (hb hby own_d2_3) ((if0 _ _).trans (tlt ((lw_gt _ _).mpr hc102)).2.2.1) (by decide) rfl ?_
    refine own_lloadN X0 hx 11 rfl (hb hby own_d2_10) rfl ?_
    refine own_ret X0 (some (.long b)) (fun h => by rw [Bd.returns] at h; cases h) Bd.notSynchronized (by decide) (by decide) ?_ (fun fs hr => own_retJ X0 hx Bd.returns (hb hby own_d2_11) hr)
    show Q_rm_minJ Z a b r h0 n0 _ s₁.heap _
    rw [e0]
    exact ⟨by rw [← hres, if_pos hc102], N0, rfl⟩
  ·
    refine own_ifNo X0 hx 6 rfl (hb hby own_d2_3) ((if0 _ _).trans (flt (fun z => hc102 ((lw_gt _ _).mp z))).2.2.1) ?_
    refine own_lloadN X0 hx 7 rfl (hb hby own_d2_6) rfl ?_
    refine own_goto X0 hx 11 (hb hby own_d2_7) (by decide) rfl ?_
    refine own_ret X0 (some (.long a)) (fun h => by rw [Bd.returns] at h; cases h) Bd.notSynchronized (by decide) (by decide) ?_ (fun fs hr => own_retJ X0 hx Bd.returns (hb hby own_d2_11) hr)
    show Q_rm_minJ Z a b r h0 n0 _ s₁.heap _
    rw [e0]
    exact ⟨by rw [← hres, if_neg hc102], N0, rfl⟩
theorem own_pn0 : plainName "com/example/portunus/portunus/RateLimiterConfig" = true := by first | (simp [plainName, overriddenIn]; done) | decide +kernel
theorem own_ef_rm_cfg (m : MethodId) (o : Addr) (k : Int32) (ms : Int64) (ty : Addr) : entryFrame m #[(.ref o), (.int k), (.long ms), (.ref ty)] 5 = mkF m 0 #[.val (.ref o), .val (.int k), .val (.long ms), .second, .val (.ref ty)] [] := by first | (simp [entryFrame, mkF, argsToLocals, Value.category]; done) | rfl
def Q_rm_cfg (Z : State) (o : Addr) (k : Int32) (ms : Int64) (ty : Addr) (h0 : Heap) (n0 : Nat) (v : Option Value) (h : Heap) (L : List Loc) : Prop := v = none ∧ Fr n0 L ∧ Keep h0 h [o] ∧ Exa Z h o "com/example/portunus/portunus/RateLimiterConfig" ∧ Fld Z h o "com/example/portunus/portunus/RateLimiterConfig" "maxRequests" "I" (.int k) ∧ Fld Z h o "com/example/portunus/portunus/RateLimiterConfig" "timeWindowMillis" "J" (.long ms)
theorem own_d3_0 : decode prog_22_method_1_code 0 = .ok (.aload_n 0, 1) := by decide +kernel
theorem own_d3_1 : decode prog_22_method_1_code 1 = .ok (.invokespecial 1, 3) := by decide +kernel
theorem own_d3_4 : decode prog_22_method_1_code 4 = .ok (.iload_n 1, 1) := by decide +kernel
theorem own_d3_5 : decode prog_22_method_1_code 5 = .ok (.ifCond .gt 17, 3) := by decide +kernel
theorem own_d3_22 : decode prog_22_method_1_code 22 = .ok (.lload_n 2, 1) := by decide +kernel
theorem own_d3_23 : decode prog_22_method_1_code 23 = .ok (.lconst 0, 1) := by decide +kernel
theorem own_d3_24 : decode prog_22_method_1_code 24 = .ok (.lcmp, 1) := by decide +kernel
theorem own_d3_25 : decode prog_22_method_1_code 25 = .ok (.ifCond .gt 17, 3) := by decide +kernel
theorem own_d3_42 : decode prog_22_method_1_code 42 = .ok (.lload_n 2, 1) := by decide +kernel
theorem own_d3_43 : decode prog_22_method_1_code 43 = .ok (.ldc2_w 23, 3) := by decide +kernel
theorem own_d3_46 : decode prog_22_method_1_code 46 = .ok (.lcmp, 1) := by decide +kernel
theorem own_d3_47 : decode prog_22_method_1_code 47 = .ok (.ifCond .le 17, 3) := by decide +kernel
theorem own_d3_64 : decode prog_22_method_1_code 64 = .ok (.aload 4, 2) := by decide +kernel
theorem own_d3_66 : decode prog_22_method_1_code 66 = .ok (.ifnonnull 13, 3) := by decide +kernel
theorem own_d3_79 : decode prog_22_method_1_code 79 = .ok (.aload_n 0, 1) := by decide +kernel
theorem own_d3_80 : decode prog_22_method_1_code 80 = .ok (.iload_n 1, 1) := by decide +kernel
theorem own_d3_81 : decode prog_22_method_1_code 81 = .ok (.putfield 28, 3) := by decide +kernel
theorem own_d3_84 : decode prog_22_method_1_code 84 = .ok (.aload_n 0, 1) := by decide +kernel
theorem own_d3_85 : decode prog_22_method_1_code 85 = .ok (.lload_n 2, 1) := by decide +kernel
theorem own_d3_86 : decode prog_22_method_1_code 86 = .ok (.putfield 32, 3) := by decide +kernel
theorem own_d3_89 : decode prog_22_method_1_code 89 = .ok (.aload_n 0, 1) := by decide +kernel
theorem own_d3_90 : decode prog_22_method_1_code 90 = .ok (.aload 4, 2) := by decide +kernel
theorem own_d3_92 : decode prog_22_method_1_code 92 = .ok (.putfield 36, 3) := by decide +kernel
theorem own_d3_95 : decode prog_22_method_1_code 95 = .ok (.return_, 1) := by decide +kernel
set_option maxRecDepth 65536 in
set_option maxHeartbeats 40000000 in
theorem rm_cfg (l : Launch) (Z : State) (a0 : Array Value) (hw : ∀ d ∈ tables_1, d.before a0 Z = true) (ws : List Jvm.Cond) (o : Addr) (k : Int32) (ms : Int64) (ty : Addr) (h0 : Heap) (n0 : Nat) (Z0 : n0 ≤ h0.size) (E1 : Exa Z h0 o "com/example/portunus/portunus/RateLimiterConfig") (F1 : Fld Z h0 o "com/example/portunus/portunus/RateLimiterConfig" "maxRequests" "I" (.int (0 : Int32))) (F2 : Fld Z h0 o "com/example/portunus/portunus/RateLimiterConfig" "timeWindowMillis" "J" (.long (0 : Int64))) (F3 : Fld Z h0 o "com/example/portunus/portunus/RateLimiterConfig" "type" "Lcom/example/portunus/portunus/RateLimiterType;" .null) (g_o : n0 ≤ o) (h1 : 0 < k) (h2 : 0 < ms) (h3 : ¬ (9223372036854 : Int64) < ms) :
    MetFree l (⟨"com/example/portunus/portunus/RateLimiterConfig", "<init>", "(IJLcom/example/portunus/portunus/RateLimiterType;)V"⟩ : MethodName) (head1 (Jvm.Cond.code (⟨"com/example/portunus/portunus/RateLimiterConfig", "<init>", "(IJLcom/example/portunus/portunus/RateLimiterType;)V"⟩ : MethodName) prog_22_method_1_code 5 none :: ws) ({ frames := 1, cells := 0, slots := 0, locals := 12 } : Room)) (fun aa U => aa = #[(.ref o), (.int k), (.long ms), (.ref ty)] ∧ Z.Warmed39 U.vm ∧ U.heap = h0) (fun _ _ _ _ _ => True) (fun _ U ou U' => ∃ v L, ou = .returned v ∧ Q_rm_cfg Z o k ms ty h0 n0 v U'.heap L ∧ FrameEnd U ou U' L ({ frames := 1, cells := 0, slots := 0, locals := 12 } : Room).cells ({ frames := 1, cells := 0, slots := 0, locals := 12 } : Room).slots) := by
  refine MetFree.of_bodySF (plainFor_of_name own_pn0) hisR ?_
  intro p e s m args below meth c s₁ Bd hml0 hP hK
  obtain ⟨rfl, hZ, hh⟩ := hP
  have hx := Bd.exec
  have hby := Bd.bytes
  have hml : c.maxLocals = 5 := hml0
  have hown : s.vm.findClass "com/example/portunus/portunus/RateLimiterConfig" = some m.cls := findClass_of_methodNamed Bd.named
  have hnm := (name_of_methodNamed Bd.named Bd.method).1
  have X0 : Stand p l e ({ frames := 1, cells := 0, slots := 0, locals := 12 } : Room) s m #[(.ref o), (.int k), (.long ms), (.ref ty)] below meth c s₁ [] 0 0 := Stand.of_body Bd
  have e0 : s₁.heap = h0 := by rw [← hh, Bd.state]; rfl
  have N0 := Fr.nil n0
  have K0 := Keep.refl h0 [o]
  show own_Go p e below (fun o u L => FrameEnd s o u L ({ frames := 1, cells := 0, slots := 0, locals := 12 } : Room).cells ({ frames := 1, cells := 0, slots := 0, locals := 12 } : Room).slots) (Q_rm_cfg Z o k ms ty h0 n0) (s₁.setTop (entryFrame m #[(.ref o), (.int k), (.long ms), (.ref ty)] 5))
  rw [own_ef_rm_cfg m o k ms ty]
  show own_Go _ _ _ _ _ (State.setTop _ (mkF _ 0 #[.val (.ref o), .val (.int k), .val (.long ms), .second, .val (.ref ty)] []))
  refine own_aloadN X0 hx 1 rfl (hb hby own_d3_0) rfl rfl ?_
  refine own_initO X0 hx hZ hown (own_hw hw 20 rfl) (own_hw hw 21 rfl) (own_hw hw 22 rfl) e0 (by rw [hml]; rfl) 4 rfl (hb hby own_d3_1) (by decide) 0 (Nat.le_of_eq rfl) (by decide) fun T103 X103 e103 => ?_
  refine own_iloadN X103 hx 5 rfl (hb hby own_d3_4) rfl ?_
  refine own_ifYes X103 hx 22 (hb hby own_d3_5) ((if0 _ _).trans (tlt h1).2.2.1) (by decide) rfl ?_
  refine own_lloadN X103 hx 23 rfl (hb hby own_d3_22) rfl ?_
  refine own_lconst X103 hx 24 rfl (hb hby own_d3_23) (0 : Int64) rfl ?_
  refine own_lcmp X103 hx 25 rfl (hb hby own_d3_24) _ rfl ?_
  refine own_ifYes X103 hx 42 (hb hby own_d3_25) ((if0 _ _).trans (tlt ((lw_gt _ _).mpr h2)).2.2.1) (by decide) rfl ?_
  refine own_lloadN X103 hx 43 rfl (hb hby own_d3_42) rfl ?_
  refine own_ldcJ X103 hx hZ hown (own_hw hw 23 rfl) 46 rfl (hb hby own_d3_43) ?_
  refine own_lcmp X103 hx 47 rfl (hb hby own_d3_46) _ rfl ?_
  refine own_ifYes X103 hx 64 (hb hby own_d3_47) ((if0 _ _).trans (flt (fun z => h3 ((lw_gt _ _).mp z))).2.2.2) (by decide) rfl ?_
  refine own_aload X103 hx 66 rfl (hb hby own_d3_64) rfl rfl ?_
  refine own_ifnonnullYes X103 hx 79 (hb hby own_d3_66) (by decide) rfl ?_
  refine own_aloadN X103 hx 80 rfl (hb hby own_d3_79) rfl rfl ?_
  refine own_iloadN X103 hx 81 rfl (hb hby own_d3_80) rfl ?_
  refine own_putF X103 hx hZ (host := "") hown (Or.inl (own_hw hw 24 rfl)) Via.refl e103 F1 E1 (Or.inr ⟨(own_hw hw 25 rfl), rfl, hnm⟩) (own_hw hw 12 rfl) (ty := .int) (by decide) rfl rfl 84 rfl (hb hby own_d3_81) fun T104 h104 X104 e104 W104 => ?_
  have f105 := E1.wr W104
  have f106 := F2.other W104 (Or.inr (slot_ne (Or.inr (own_hw hw 27 rfl)) (Or.inr (own_hw hw 25 rfl)) (by decide) (t := .long) (t' := .int) (by decide) (by decide)))
  have f107 := F3.other W104 (Or.inr (slot_ne (Or.inr (own_hw hw 29 rfl)) (Or.inr (own_hw hw 25 rfl)) (by decide) (t := (.object "com/example/portunus/portunus/RateLimiterType")) (t' := .int) (by decide) (by decide)))
  have z108 := Nat.le_trans Z0 (Keep.of_wr W104).1
  have K109 := K0.wr W104 (Or.inl (List.mem_of_getElem? (i := 0) rfl))
  have f110 := F1.same W104
  have N111 := Fr.snoc X104 N0 g_o
  refine own_aloadN X104 hx 85 rfl (hb hby own_d3_84) rfl rfl ?_
  refine own_lloadN X104 hx 86 rfl (hb hby own_d3_85) rfl ?_
  refine own_putF X104 hx hZ (host := "") hown (Or.inl (own_hw hw 26 rfl)) Via.refl e104 f106 f105 (Or.inr ⟨(own_hw hw 27 rfl), rfl, hnm⟩) (own_hw hw 12 rfl) (ty := .long) (by decide) rfl rfl 89 rfl (hb hby own_d3_86) fun T112 h112 X112 e112 W112 => ?_
  have f113 := f105.wr W112
  have f114 := f107.other W112 (Or.inr (slot_ne (Or.inr (own_hw hw 29 rfl)) (Or.inr (own_hw hw 27 rfl)) (by decide) (t := (.object "com/example/portunus/portunus/RateLimiterType")) (t' := .long) (by decide) (by decide)))
  have f115 := f110.other W112 (Or.inr (slot_ne (Or.inr (own_hw hw 25 rfl)) (Or.inr (own_hw hw 27 rfl)) (by decide) (t := .int) (t' := .long) (by decide) (by decide)))
  have z116 := Nat.le_trans z108 (Keep.of_wr W112).1
  have K117 := K109.wr W112 (Or.inl (List.mem_of_getElem? (i := 0) rfl))
  have f118 := f106.same W112
  have N119 := Fr.snoc X112 N111 g_o
  refine own_aloadN X112 hx 90 rfl (hb hby own_d3_89) rfl rfl ?_
  refine own_aload X112 hx 92 rfl (hb hby own_d3_90) rfl rfl ?_
  refine own_putF X112 hx hZ (host := "") hown (Or.inl (own_hw hw 28 rfl)) Via.refl e112 f114 f113 (Or.inr ⟨(own_hw hw 29 rfl), rfl, hnm⟩) (own_hw hw 12 rfl) (ty := (.object "com/example/portunus/portunus/RateLimiterType")) (by decide) rfl rfl 95 rfl (hb hby own_d3_92) fun T120 h120 X120 e120 W120 => ?_
  have f121 := f113.wr W120
  have f122 := f115.other W120 (Or.inr (slot_ne (Or.inr (own_hw hw 25 rfl)) (Or.inr (own_hw hw 29 rfl)) (by decide) (t := .int) (t' := (.object "com/example/portunus/portunus/RateLimiterType")) (by decide) (by decide)))
  have f123 := f118.other W120 (Or.inr (slot_ne (Or.inr (own_hw hw 27 rfl)) (Or.inr (own_hw hw 29 rfl)) (by decide) (t := .long) (t' := (.object "com/example/portunus/portunus/RateLimiterType")) (by decide) (by decide)))
  have z124 := Nat.le_trans z116 (Keep.of_wr W120).1
  have K125 := K117.wr W120 (Or.inl (List.mem_of_getElem? (i := 0) rfl))
  have f126 := f114.same W120
  have N127 := Fr.snoc X120 N119 g_o
  refine own_ret X120 none (fun _ => rfl) Bd.notSynchronized (by decide) (by decide) ?_ (fun fs hr => X120.returnOut hx Bd.returns (hb hby own_d3_95) hr)
  show Q_rm_cfg Z o k ms ty h0 n0 _ T120.heap _
  rw [e120]
  exact ⟨rfl, N127, K125, f121, f122, f123⟩
theorem own_ef_rm_getmax (m : MethodId) (o : Addr) : entryFrame m #[(.ref o)] 1 = mkF m 0 #[.val (.ref o)] [] := by first | (simp [entryFrame, mkF, argsToLocals, Value.category]; done) | rfl
def Q_rm_getmax (Z : State) (o : Addr) (u : Int32) (h0 : Heap) (n0 : Nat) (v : Option Value) (h : Heap) (L : List Loc) : Prop := v = some (.int u) ∧ Fr n0 L ∧ h = h0
theorem own_d6_0 : decode prog_22_method_2_code 0 = .ok (.aload_n 0, 1) := by decide +kernel
theorem own_d6_1 : decode prog_22_method_2_code 1 = .ok (.getfield 28, 3) := by decide +kernel
theorem own_d6_4 : decode prog_22_method_2_code 4 = .ok (.ireturn, 1) := by decide +kernel
set_option maxRecDepth 65536 in
set_option maxHeartbeats 40000000 in
theorem rm_getmax (l : Launch) (Z : State) (a0 : Array Value) (hw : ∀ d ∈ tables_1, d.before a0 Z = true) (ws : List Jvm.Cond) (o : Addr) (u : Int32) (h0 : Heap) (n0 : Nat) (Z0 : n0 ≤ h0.size) (F1 : Fld Z h0 o "com/example/portunus/portunus/RateLimiterConfig" "maxRequests" "I" (.int u)) :
    MetFree l (⟨"com/example/portunus/portunus/RateLimiterConfig", "getMaxRequests", "()I"⟩ : MethodName) (head1 (Jvm.Cond.code (⟨"com/example/portunus/portunus/RateLimiterConfig", "getMaxRequests", "()I"⟩ : MethodName) prog_22_method_2_code 1 (some .int) :: ws) ({ frames := 0, cells := 0, slots := 0, locals := 0 } : Room)) (fun aa U => aa = #[(.ref o)] ∧ Z.Warmed39 U.vm ∧ U.heap = h0) (fun _ _ _ _ _ => True) (fun _ U ou U' => ∃ v L, ou = .returned v ∧ Q_rm_getmax Z o u h0 n0 v U'.heap L ∧ FrameEnd U ou U' L ({ frames := 0, cells := 0, slots := 0, locals := 0 } : Room).cells ({ frames := 0, cells := 0, slots := 0, locals := 0 } : Room).slots) := by
  refine MetFree.of_bodySF (plainFor_of_name own_pn0) hisR ?_
  intro p e s m args below meth c s₁ Bd hml0 hP hK
  obtain ⟨rfl, hZ, hh⟩ := hP
  have hx := Bd.exec
  have hby := Bd.bytes
  have hml : c.maxLocals = 1 := hml0
  have hown : s.vm.findClass "com/example/portunus/portunus/RateLimiterConfig" = some m.cls := findClass_of_methodNamed Bd.named
  have hnm := (name_of_methodNamed Bd.named Bd.method).1
  have X0 : Stand p l e ({ frames := 0, cells := 0, slots := 0, locals := 0 } : Room) s m #[(.ref o)] below meth c s₁ [] 0 0 := Stand.of_body Bd
  have e0 : s₁.heap = h0 := by rw [← hh, Bd.state]; rfl
  have N0 := Fr.nil n0
  show own_Go p e below (fun o u L => FrameEnd s o u L ({ frames := 0, cells := 0, slots := 0, locals := 0 } : Room).cells ({ frames := 0, cells := 0, slots := 0, locals := 0 } : Room).slots) (Q_rm_getmax Z o u h0 n0) (s₁.setTop (entryFrame m #[(.ref o)] 1))
  rw [own_ef_rm_getmax m o]
  show own_Go _ _ _ _ _ (State.setTop _ (mkF _ 0 #[.val (.ref o)] []))
  refine own_aloadN X0 hx 1 rfl (hb hby own_d6_0) rfl rfl ?_
  refine own_getF X0 hx hZ (host := "") hown (Or.inl (own_hw hw 24 rfl)) Via.refl e0 F1 4 rfl (hb hby own_d6_1) fun T128 X128 e128 => ?_
  refine own_ret X128 (some (.int u)) (fun h => by rw [Bd.returns] at h; cases h) Bd.notSynchronized (by decide) (by decide) ?_ (fun fs hr => own_retI X128 hx Bd.returns (hb hby own_d6_4) hr)
  show Q_rm_getmax Z o u h0 n0 _ T128.heap _
  rw [e128]
  exact ⟨rfl, N0, rfl⟩
theorem own_ef_rm_getwin (m : MethodId) (o : Addr) : entryFrame m #[(.ref o)] 1 = mkF m 0 #[.val (.ref o)] [] := by first | (simp [entryFrame, mkF, argsToLocals, Value.category]; done) | rfl
def Q_rm_getwin (Z : State) (o : Addr) (ms : Int64) (h0 : Heap) (n0 : Nat) (v : Option Value) (h : Heap) (L : List Loc) : Prop := v = some (.long (ms * (1000000 : Int64))) ∧ Fr n0 L ∧ h = h0
theorem own_d7_0 : decode prog_22_method_4_code 0 = .ok (.aload_n 0, 1) := by decide +kernel
theorem own_d7_1 : decode prog_22_method_4_code 1 = .ok (.getfield 32, 3) := by decide +kernel
theorem own_d7_4 : decode prog_22_method_4_code 4 = .ok (.ldc2_w 40, 3) := by decide +kernel
theorem own_d7_7 : decode prog_22_method_4_code 7 = .ok (.lmul, 1) := by decide +kernel
theorem own_d7_8 : decode prog_22_method_4_code 8 = .ok (.lreturn, 1) := by decide +kernel
set_option maxRecDepth 65536 in
set_option maxHeartbeats 40000000 in
theorem rm_getwin (l : Launch) (Z : State) (a0 : Array Value) (hw : ∀ d ∈ tables_1, d.before a0 Z = true) (ws : List Jvm.Cond) (o : Addr) (ms : Int64) (h0 : Heap) (n0 : Nat) (Z0 : n0 ≤ h0.size) (F1 : Fld Z h0 o "com/example/portunus/portunus/RateLimiterConfig" "timeWindowMillis" "J" (.long ms)) :
    MetFree l (⟨"com/example/portunus/portunus/RateLimiterConfig", "getTimeWindowNanos", "()J"⟩ : MethodName) (head1 (Jvm.Cond.code (⟨"com/example/portunus/portunus/RateLimiterConfig", "getTimeWindowNanos", "()J"⟩ : MethodName) prog_22_method_4_code 1 (some .long) :: ws) ({ frames := 0, cells := 0, slots := 0, locals := 0 } : Room)) (fun aa U => aa = #[(.ref o)] ∧ Z.Warmed39 U.vm ∧ U.heap = h0) (fun _ _ _ _ _ => True) (fun _ U ou U' => ∃ v L, ou = .returned v ∧ Q_rm_getwin Z o ms h0 n0 v U'.heap L ∧ FrameEnd U ou U' L ({ frames := 0, cells := 0, slots := 0, locals := 0 } : Room).cells ({ frames := 0, cells := 0, slots := 0, locals := 0 } : Room).slots) := by
  refine MetFree.of_bodySF (plainFor_of_name own_pn0) hisR ?_
  intro p e s m args below meth c s₁ Bd hml0 hP hK
  obtain ⟨rfl, hZ, hh⟩ := hP
  have hx := Bd.exec
  have hby := Bd.bytes
  have hml : c.maxLocals = 1 := hml0
  have hown : s.vm.findClass "com/example/portunus/portunus/RateLimiterConfig" = some m.cls := findClass_of_methodNamed Bd.named
  have hnm := (name_of_methodNamed Bd.named Bd.method).1
  have X0 : Stand p l e ({ frames := 0, cells := 0, slots := 0, locals := 0 } : Room) s m #[(.ref o)] below meth c s₁ [] 0 0 := Stand.of_body Bd
  have e0 : s₁.heap = h0 := by rw [← hh, Bd.state]; rfl
  have N0 := Fr.nil n0
  show own_Go p e below (fun o u L => FrameEnd s o u L ({ frames := 0, cells := 0, slots := 0, locals := 0 } : Room).cells ({ frames := 0, cells := 0, slots := 0, locals := 0 } : Room).slots) (Q_rm_getwin Z o ms h0 n0) (s₁.setTop (entryFrame m #[(.ref o)] 1))
  rw [own_ef_rm_getwin m o]
  show own_Go _ _ _ _ _ (State.setTop _ (mkF _ 0 #[.val (.ref o)] []))
  refine own_aloadN X0 hx 1 rfl (hb hby own_d7_0) rfl rfl ?_
  refine own_getF X0 hx hZ (host := "") hown (Or.inl (own_hw hw 26 rfl)) Via.refl e0 F1 4 rfl (hb hby own_d7_1) fun T129 X129 e129 => ?_
  refine own_ldcJ X129 hx hZ hown (own_hw hw 49 rfl) 7 rfl (hb hby own_d7_4) ?_
  refine own_lmul X129 hx 8 rfl (hb hby own_d7_7) _ rfl ?_
  refine own_ret X129 (some (.long (ms * (1000000 : Int64)))) (fun h => by rw [Bd.returns] at h; cases h) Bd.notSynchronized (by decide) (by decide) ?_ (fun fs hr => own_retJ X129 hx Bd.returns (hb hby own_d7_8) hr)
  show Q_rm_getwin Z o ms h0 n0 _ T129.heap _
  rw [e129]
  exact ⟨rfl, N0, rfl⟩
theorem own_pn1 : plainName "com/example/portunus/portunus/Periods" = true := by first | (simp [plainName, overriddenIn]; done) | decide +kernel
theorem own_ef_rm_per (m : MethodId) (o : Addr) (q : Addr) : entryFrame m #[(.ref o), (.ref q)] 2 = mkF m 0 #[.val (.ref o), .val (.ref q)] [] := by first | (simp [entryFrame, mkF, argsToLocals, Value.category]; done) | rfl
def Q_rm_per (Z : State) (o : Addr) (q : Addr) (k : Int32) (ms : Int64) (h0 : Heap) (n0 : Nat) (v : Option Value) (h : Heap) (L : List Loc) : Prop := v = none ∧ Fr n0 L ∧ Keep h0 h [o] ∧ Exa Z h o "com/example/portunus/portunus/Periods" ∧ Fld Z h o "com/example/portunus/portunus/Periods" "maxRequests" "I" (.int k) ∧ Fld Z h o "com/example/portunus/portunus/Periods" "periodNanos" "J" (.long ((ms * (1000000 : Int64)) / k.toInt64)) ∧ Fld Z h o "com/example/portunus/portunus/Periods" "periodFraction" "J" (.long ((ms * (1000000 : Int64)) % k.toInt64))
theorem own_d5_0 : decode prog_15_method_1_code 0 = .ok (.aload_n 0, 1) := by decide +kernel
theorem own_d5_1 : decode prog_15_method_1_code 1 = .ok (.invokespecial 1, 3) := by decide +kernel
theorem own_d5_4 : decode prog_15_method_1_code 4 = .ok (.aload_n 0, 1) := by decide +kernel
theorem own_d5_5 : decode prog_15_method_1_code 5 = .ok (.aload_n 1, 1) := by decide +kernel
theorem own_d5_6 : decode prog_15_method_1_code 6 = .ok (.invokevirtual 7, 3) := by decide +kernel
theorem own_pd0 : parseMethodDescriptor "()I" = some ⟨[], some .int⟩ := by decide +kernel
theorem own_d5_9 : decode prog_15_method_1_code 9 = .ok (.putfield 13, 3) := by decide +kernel
theorem own_d5_12 : decode prog_15_method_1_code 12 = .ok (.aload_n 0, 1) := by decide +kernel
theorem own_d5_13 : decode prog_15_method_1_code 13 = .ok (.aload_n 1, 1) := by decide +kernel
theorem own_d5_14 : decode prog_15_method_1_code 14 = .ok (.invokevirtual 19, 3) := by decide +kernel
theorem own_pd1 : parseMethodDescriptor "()J" = some ⟨[], some .long⟩ := by decide +kernel
theorem own_d5_17 : decode prog_15_method_1_code 17 = .ok (.putfield 23, 3) := by decide +kernel
theorem own_d5_20 : decode prog_15_method_1_code 20 = .ok (.aload_n 0, 1) := by decide +kernel
theorem own_d5_21 : decode prog_15_method_1_code 21 = .ok (.aload_n 0, 1) := by decide +kernel
theorem own_d5_22 : decode prog_15_method_1_code 22 = .ok (.getfield 23, 3) := by decide +kernel
theorem own_d5_25 : decode prog_15_method_1_code 25 = .ok (.aload_n 0, 1) := by decide +kernel
theorem own_d5_26 : decode prog_15_method_1_code 26 = .ok (.getfield 13, 3) := by decide +kernel
theorem own_d5_29 : decode prog_15_method_1_code 29 = .ok (.i2l, 1) := by decide +kernel
theorem own_d5_30 : decode prog_15_method_1_code 30 = .ok (.ldiv, 1) := by decide +kernel
theorem own_d5_31 : decode prog_15_method_1_code 31 = .ok (.putfield 27, 3) := by decide +kernel
theorem own_d5_34 : decode prog_15_method_1_code 34 = .ok (.aload_n 0, 1) := by decide +kernel
theorem own_d5_35 : decode prog_15_method_1_code 35 = .ok (.aload_n 0, 1) := by decide +kernel
theorem own_d5_36 : decode prog_15_method_1_code 36 = .ok (.getfield 23, 3) := by decide +kernel
theorem own_d5_39 : decode prog_15_method_1_code 39 = .ok (.aload_n 0, 1) := by decide +kernel
theorem own_d5_40 : decode prog_15_method_1_code 40 = .ok (.getfield 13, 3) := by decide +kernel
theorem own_d5_43 : decode prog_15_method_1_code 43 = .ok (.i2l, 1) := by decide +kernel
theorem own_d5_44 : decode prog_15_method_1_code 44 = .ok (.lrem, 1) := by decide +kernel
theorem own_d5_45 : decode prog_15_method_1_code 45 = .ok (.putfield 30, 3) := by decide +kernel
theorem own_d5_48 : decode prog_15_method_1_code 48 = .ok (.aload_n 0, 1) := by decide +kernel
theorem own_d5_49 : decode prog_15_method_1_code 49 = .ok (.aload_n 0, 1) := by decide +kernel
theorem own_d5_50 : decode prog_15_method_1_code 50 = .ok (.getfield 23, 3) := by decide +kernel
theorem own_d5_53 : decode prog_15_method_1_code 53 = .ok (.l2d, 1) := by decide +kernel
theorem own_d5_54 : decode prog_15_method_1_code 54 = .ok (.aload_n 0, 1) := by decide +kernel
theorem own_d5_55 : decode prog_15_method_1_code 55 = .ok (.getfield 13, 3) := by decide +kernel
theorem own_d5_58 : decode prog_15_method_1_code 58 = .ok (.i2d, 1) := by decide +kernel
theorem own_d5_59 : decode prog_15_method_1_code 59 = .ok (.ddiv, 1) := by decide +kernel
theorem own_d5_60 : decode prog_15_method_1_code 60 = .ok (.putfield 33, 3) := by decide +kernel
theorem own_d5_63 : decode prog_15_method_1_code 63 = .ok (.aload_n 0, 1) := by decide +kernel
theorem own_d5_64 : decode prog_15_method_1_code 64 = .ok (.getfield 30, 3) := by decide +kernel
theorem own_d5_67 : decode prog_15_method_1_code 67 = .ok (.lconst 0, 1) := by decide +kernel
theorem own_d5_68 : decode prog_15_method_1_code 68 = .ok (.lcmp, 1) := by decide +kernel
theorem own_d5_69 : decode prog_15_method_1_code 69 = .ok (.ifCond .ne 24, 3) := by decide +kernel
theorem own_d5_72 : decode prog_15_method_1_code 72 = .ok (.aload_n 0, 1) := by decide +kernel
theorem own_d5_73 : decode prog_15_method_1_code 73 = .ok (.aload_n 0, 1) := by decide +kernel
theorem own_d5_74 : decode prog_15_method_1_code 74 = .ok (.getfield 23, 3) := by decide +kernel
theorem own_d5_77 : decode prog_15_method_1_code 77 = .ok (.aload_n 0, 1) := by decide +kernel
theorem own_d5_78 : decode prog_15_method_1_code 78 = .ok (.getfield 27, 3) := by decide +kernel
theorem own_d5_81 : decode prog_15_method_1_code 81 = .ok (.lsub, 1) := by decide +kernel
theorem own_d5_82 : decode prog_15_method_1_code 82 = .ok (.putfield 37, 3) := by decide +kernel
theorem own_d5_85 : decode prog_15_method_1_code 85 = .ok (.aload_n 0, 1) := by decide +kernel
theorem own_d5_86 : decode prog_15_method_1_code 86 = .ok (.lconst 0, 1) := by decide +kernel
theorem own_d5_87 : decode prog_15_method_1_code 87 = .ok (.putfield 40, 3) := by decide +kernel
theorem own_d5_90 : decode prog_15_method_1_code 90 = .ok (.goto 32, 3) := by decide +kernel
theorem own_d5_122 : decode prog_15_method_1_code 122 = .ok (.return_, 1) := by decide +kernel
theorem own_d5_93 : decode prog_15_method_1_code 93 = .ok (.aload_n 0, 1) := by decide +kernel
theorem own_d5_94 : decode prog_15_method_1_code 94 = .ok (.aload_n 0, 1) := by decide +kernel
theorem own_d5_95 : decode prog_15_method_1_code 95 = .ok (.getfield 23, 3) := by decide +kernel
theorem own_d5_98 : decode prog_15_method_1_code 98 = .ok (.aload_n 0, 1) := by decide +kernel
theorem own_d5_99 : decode prog_15_method_1_code 99 = .ok (.getfield 27, 3) := by decide +kernel
theorem own_d5_102 : decode prog_15_method_1_code 102 = .ok (.lsub, 1) := by decide +kernel
theorem own_d5_103 : decode prog_15_method_1_code 103 = .ok (.lconst 1, 1) := by decide +kernel
theorem own_d5_104 : decode prog_15_method_1_code 104 = .ok (.lsub, 1) := by decide +kernel
theorem own_d5_105 : decode prog_15_method_1_code 105 = .ok (.putfield 37, 3) := by decide +kernel
theorem own_d5_108 : decode prog_15_method_1_code 108 = .ok (.aload_n 0, 1) := by decide +kernel
theorem own_d5_109 : decode prog_15_method_1_code 109 = .ok (.aload_n 0, 1) := by decide +kernel
theorem own_d5_110 : decode prog_15_method_1_code 110 = .ok (.getfield 13, 3) := by decide +kernel
theorem own_d5_113 : decode prog_15_method_1_code 113 = .ok (.i2l, 1) := by decide +kernel
theorem own_d5_114 : decode prog_15_method_1_code 114 = .ok (.aload_n 0, 1) := by decide +kernel
theorem own_d5_115 : decode prog_15_method_1_code 115 = .ok (.getfield 30, 3) := by decide +kernel
theorem own_d5_118 : decode prog_15_method_1_code 118 = .ok (.lsub, 1) := by decide +kernel
theorem own_d5_119 : decode prog_15_method_1_code 119 = .ok (.putfield 40, 3) := by decide +kernel
set_option maxRecDepth 65536 in
set_option maxHeartbeats 40000000 in
theorem rm_per (l : Launch) (Z : State) (a0 : Array Value) (hw : ∀ d ∈ tables_1, d.before a0 Z = true) (ws : List Jvm.Cond) (o : Addr) (q : Addr) (k : Int32) (ms : Int64) (h0 : Heap) (n0 : Nat) (Z0 : n0 ≤ h0.size) (E1 : Exa Z h0 o "com/example/portunus/portunus/Periods") (F_maxRequests : Fld Z h0 o "com/example/portunus/portunus/Periods" "maxRequests" "I" (.int (0 : Int32))) (F_windowNanos : Fld Z h0 o "com/example/portunus/portunus/Periods" "windowNanos" "J" (.long (0 : Int64))) (F_periodNanos : Fld Z h0 o "com/example/portunus/portunus/Periods" "periodNanos" "J" (.long (0 : Int64))) (F_periodFraction : Fld Z h0 o "com/example/portunus/portunus/Periods" "periodFraction" "J" (.long (0 : Int64))) (F_periodForGuesses : Fld Z h0 o "com/example/portunus/portunus/Periods" "periodForGuesses" "D" (.double (0 : UInt64))) (F_roomMarkNanos : Fld Z h0 o "com/example/portunus/portunus/Periods" "roomMarkNanos" "J" (.long (0 : Int64))) (F_roomMarkFraction : Fld Z h0 o "com/example/portunus/portunus/Periods" "roomMarkFraction" "J" (.long (0 : Int64))) (g_o : n0 ≤ o) (Ec : Exa Z h0 q "com/example/portunus/portunus/RateLimiterConfig") (Fk : Fld Z h0 q "com/example/portunus/portunus/RateLimiterConfig" "maxRequests" "I" (.int k)) (Fm : Fld Z h0 q "com/example/portunus/portunus/RateLimiterConfig" "timeWindowMillis" "J" (.long ms)) (hne : q ≠ o) (hk : ¬ k.toInt64 = 0) (hk0 : k ≠ 0) :
    MetFree l (⟨"com/example/portunus/portunus/Periods", "<init>", "(Lcom/example/portunus/portunus/RateLimiterConfig;)V"⟩ : MethodName) (head1 (Jvm.Cond.code (⟨"com/example/portunus/portunus/Periods", "<init>", "(Lcom/example/portunus/portunus/RateLimiterConfig;)V"⟩ : MethodName) prog_15_method_1_code 2 none :: ws) ({ frames := 1, cells := 0, slots := 0, locals := 24 } : Room)) (fun aa U => aa = #[(.ref o), (.ref q)] ∧ Z.Warmed39 U.vm ∧ U.heap = h0) (fun _ _ _ _ _ => True) (fun _ U ou U' => ∃ v L, ou = .returned v ∧ Q_rm_per Z o q k ms h0 n0 v U'.heap L ∧ FrameEnd U ou U' L ({ frames := 1, cells := 0, slots := 0, locals := 24 } : Room).cells ({ frames := 1, cells := 0, slots := 0, locals := 24 } : Room).slots) := by
  refine MetFree.of_bodySF (plainFor_of_name own_pn1) hisR ?_
  intro p e s m args below meth c s₁ Bd hml0 hP hK
  obtain ⟨rfl, hZ, hh⟩ := hP
  have hx := Bd.exec
  have hby := Bd.bytes
  have hml : c.maxLocals = 2 := hml0
  have hown : s.vm.findClass "com/example/portunus/portunus/Periods" = some m.cls := findClass_of_methodNamed Bd.named
  have hnm := (name_of_methodNamed Bd.named Bd.method).1
  have X0 : Stand p l e ({ frames := 1, cells := 0, slots := 0, locals := 24 } : Room) s m #[(.ref o), (.ref q)] below meth c s₁ [] 0 0 := Stand.of_body Bd
  have e0 : s₁.heap = h0 := by rw [← hh, Bd.state]; rfl
  have N0 := Fr.nil n0
  have K0 := Keep.refl h0 [o]
  show own_Go p e below (fun o u L => FrameEnd s o u L ({ frames := 1, cells := 0, slots := 0, locals := 24 } : Room).cells ({ frames := 1, cells := 0, slots := 0, locals := 24 } : Room).slots) (Q_rm_per Z o q k ms h0 n0) (s₁.setTop (entryFrame m #[(.ref o), (.ref q)] 2))
  rw [own_ef_rm_per m o q]
  show own_Go _ _ _ _ _ (State.setTop _ (mkF _ 0 #[.val (.ref o), .val (.ref q)] []))
  refine own_aloadN X0 hx 1 rfl (hb hby own_d5_0) rfl rfl ?_
  refine own_initO X0 hx hZ hown (own_hw hw 36 rfl) (own_hw hw 21 rfl) (own_hw hw 22 rfl) e0 (by rw [hml]; rfl) 4 rfl (hb hby own_d5_1) (by decide) 0 (Nat.le_of_eq rfl) (by decide) fun T130 X130 e130 => ?_
  refine own_aloadN X130 hx 5 rfl (hb hby own_d5_4) rfl rfl ?_
  refine own_aloadN X130 hx 6 rfl (hb hby own_d5_5) rfl rfl ?_
  refine own_virtual X130 hx hZ (y := (⟨"com/example/portunus/portunus/RateLimiterConfig", "getMaxRequests", "()I"⟩ : MethodName)) (z := (⟨"com/example/portunus/portunus/RateLimiterConfig", "getMaxRequests", "()I"⟩ : MethodName)) hown (own_hw hw 37 rfl) (own_hw hw 38 rfl) (own_hw hw 40 rfl) (own_hw hw 39 rfl) rfl (a := q) Ec (by decide) (rm_getmax l Z a0 hw [] q k h0 n0 Z0 Fk) (own_hw hw 41 rfl) (own_hw hw 13 rfl) (by decide) e130 (by rw [hml]; rfl) [] 1 (by decide) (Nat.le_of_eq rfl) (by decide) (by decide) (lenOf own_pd0 rfl) rfl rfl 9 rfl (hb hby own_d5_6) fun v131 T131 Lc131 X131 hQ131 => ?_
  obtain ⟨rfl, Nq131, e131⟩ := hQ131
  have N132 := Fr.app N0 Nq131
  show own_Go _ _ _ _ _ (State.setTop _ (mkF _ 9 _ [(.int k), (.ref o)]))
  refine own_putF X131 hx hZ (host := "") hown (Or.inl (own_hw hw 42 rfl)) Via.refl e131 F_maxRequests E1 (Or.inr ⟨(own_hw hw 43 rfl), rfl, hnm⟩) (own_hw hw 31 rfl) (ty := .int) (by decide) rfl rfl 12 rfl (hb hby own_d5_9) fun T133 h133 X133 e133 W133 => ?_
  have f134 := E1.wr W133
  have f135 := F_windowNanos.other W133 (Or.inr (slot_ne (Or.inr (own_hw hw 51 rfl)) (Or.inr (own_hw hw 43 rfl)) (by decide) (t := .long) (t' := .int) (by decide) (by decide)))
  have f136 := F_periodNanos.other W133 (Or.inr (slot_ne (Or.inr (own_hw hw 53 rfl)) (Or.inr (own_hw hw 43 rfl)) (by decide) (t := .long) (t' := .int) (by decide) (by decide)))
  have f137 := F_periodFraction.other W133 (Or.inr (slot_ne (Or.inr (own_hw hw 55 rfl)) (Or.inr (own_hw hw 43 rfl)) (by decide) (t := .long) (t' := .int) (by decide) (by decide)))
  have f138 := F_periodForGuesses.other W133 (Or.inr (slot_ne (Or.inr (own_hw hw 57 rfl)) (Or.inr (own_hw hw 43 rfl)) (by decide) (t := .double) (t' := .int) (by decide) (by decide)))
  have f139 := F_roomMarkNanos.other W133 (Or.inr (slot_ne (Or.inr (own_hw hw 59 rfl)) (Or.inr (own_hw hw 43 rfl)) (by decide) (t := .long) (t' := .int) (by decide) (by decide)))
  have f140 := F_roomMarkFraction.other W133 (Or.inr (slot_ne (Or.inr (own_hw hw 61 rfl)) (Or.inr (own_hw hw 43 rfl)) (by decide) (t := .long) (t' := .int) (by decide) (by decide)))
  have f141 := Ec.wr W133
  have f142 := Fk.other W133 (Or.inl hne)
  have f143 := Fm.other W133 (Or.inl hne)
  have z144 := Nat.le_trans Z0 (Keep.of_wr W133).1
  have K145 := K0.wr W133 (Or.inl (List.mem_of_getElem? (i := 0) rfl))
  have f146 := F_maxRequests.same W133
  have N147 := Fr.snoc X133 N132 g_o
  refine own_aloadN X133 hx 13 rfl (hb hby own_d5_12) rfl rfl ?_
  refine own_aloadN X133 hx 14 rfl (hb hby own_d5_13) rfl rfl ?_
  refine own_virtual X133 hx hZ (y := (⟨"com/example/portunus/portunus/RateLimiterConfig", "getTimeWindowNanos", "()J"⟩ : MethodName)) (z := (⟨"com/example/portunus/portunus/RateLimiterConfig", "getTimeWindowNanos", "()J"⟩ : MethodName)) hown (own_hw hw 44 rfl) (own_hw hw 45 rfl) (own_hw hw 47 rfl) (own_hw hw 46 rfl) rfl (a := q) f141 (by decide) (rm_getwin l Z a0 hw [] q ms h133 n0 z144 f143) (own_hw hw 48 rfl) (own_hw hw 13 rfl) (by decide) e133 (by rw [hml]; rfl) [] 1 (by decide) (Nat.le_of_eq rfl) (by decide) (by decide) (lenOf own_pd1 rfl) rfl rfl 17 rfl (hb hby own_d5_14) fun v148 T148 Lc148 X148 hQ148 => ?_
  obtain ⟨rfl, Nq148, e148⟩ := hQ148
  have N149 := Fr.app N147 Nq148
  show own_Go _ _ _ _ _ (State.setTop _ (mkF _ 17 _ [(.long (ms * (1000000 : Int64))), (.ref o)]))
  refine own_putF X148 hx hZ (host := "") hown (Or.inl (own_hw hw 50 rfl)) Via.refl e148 f135 f134 (Or.inr ⟨(own_hw hw 51 rfl), rfl, hnm⟩) (own_hw hw 31 rfl) (ty := .long) (by decide) rfl rfl 20 rfl (hb hby own_d5_17) fun T150 h150 X150 e150 W150 => ?_
  have f151 := f134.wr W150
  have f152 := f136.other W150 (Or.inr (slot_ne (Or.inr (own_hw hw 53 rfl)) (Or.inr (own_hw hw 51 rfl)) (by decide) (t := .long) (t' := .long) (by decide) (by decide)))
  have f153 := f137.other W150 (Or.inr (slot_ne (Or.inr (own_hw hw 55 rfl)) (Or.inr (own_hw hw 51 rfl)) (by decide) (t := .long) (t' := .long) (by decide) (by decide)))
  have f154 := f138.other W150 (Or.inr (slot_ne (Or.inr (own_hw hw 57 rfl)) (Or.inr (own_hw hw 51 rfl)) (by decide) (t := .double) (t' := .long) (by decide) (by decide)))
  have f155 := f139.other W150 (Or.inr (slot_ne (Or.inr (own_hw hw 59 rfl)) (Or.inr (own_hw hw 51 rfl)) (by decide) (t := .long) (t' := .long) (by decide) (by decide)))
  have f156 := f140.other W150 (Or.inr (slot_ne (Or.inr (own_hw hw 61 rfl)) (Or.inr (own_hw hw 51 rfl)) (by decide) (t := .long) (t' := .long) (by decide) (by decide)))
  have f157 := f141.wr W150
  have f158 := f142.other W150 (Or.inl hne)
  have f159 := f143.other W150 (Or.inl hne)
  have f160 := f146.other W150 (Or.inr (slot_ne (Or.inr (own_hw hw 43 rfl)) (Or.inr (own_hw hw 51 rfl)) (by decide) (t := .int) (t' := .long) (by decide) (by decide)))
  have z161 := Nat.le_trans z144 (Keep.of_wr W150).1
  have K162 := K145.wr W150 (Or.inl (List.mem_of_getElem? (i := 0) rfl))
  have f163 := f135.same W150
  have N164 := Fr.snoc X150 N149 g_o
  refine own_aloadN X150 hx 21 rfl (hb hby own_d5_20) rfl rfl ?_
  refine own_aloadN X150 hx 22 rfl (hb hby own_d5_21) rfl rfl ?_
  refine own_getF X150 hx hZ (host := "") hown (Or.inl (own_hw hw 50 rfl)) Via.refl e150 f163 25 rfl (hb hby own_d5_22) fun T165 X165 e165 => ?_
  refine own_aloadN X165 hx 26 rfl (hb hby own_d5_25) rfl rfl ?_
  refine own_getF X165 hx hZ (host := "") hown (Or.inl (own_hw hw 42 rfl)) Via.refl e165 f160 29 rfl (hb hby own_d5_26) fun T166 X166 e166 => ?_
  refine own_i2l X166 hx 30 rfl (hb hby own_d5_29) _ rfl ?_
  refine own_ldiv X166 hx 31 rfl (hb hby own_d5_30) hk _ rfl ?_
  refine own_putF X166 hx hZ (host := "") hown (Or.inl (own_hw hw 52 rfl)) Via.refl e166 f152 f151 (Or.inr ⟨(own_hw hw 53 rfl), rfl, hnm⟩) (own_hw hw 31 rfl) (ty := .long) (by decide) rfl rfl 34 rfl (hb hby own_d5_31) fun T167 h167 X167 e167 W167 => ?_
  have f168 := f151.wr W167
  have f169 := f153.other W167 (Or.inr (slot_ne (Or.inr (own_hw hw 55 rfl)) (Or.inr (own_hw hw 53 rfl)) (by decide) (t := .long) (t' := .long) (by decide) (by decide)))
  have f170 := f154.other W167 (Or.inr (slot_ne (Or.inr (own_hw hw 57 rfl)) (Or.inr (own_hw hw 53 rfl)) (by decide) (t := .double) (t' := .long) (by decide) (by decide)))
  have f171 := f155.other W167 (Or.inr (slot_ne (Or.inr (own_hw hw 59 rfl)) (Or.inr (own_hw hw 53 rfl)) (by decide) (t := .long) (t' := .long) (by decide) (by decide)))
  have f172 := f156.other W167 (Or.inr (slot_ne (Or.inr (own_hw hw 61 rfl)) (Or.inr (own_hw hw 53 rfl)) (by decide) (t := .long) (t' := .long) (by decide) (by decide)))
  have f173 := f160.other W167 (Or.inr (slot_ne (Or.inr (own_hw hw 43 rfl)) (Or.inr (own_hw hw 53 rfl)) (by decide) (t := .int) (t' := .long) (by decide) (by decide)))
  have f174 := f163.other W167 (Or.inr (slot_ne (Or.inr (own_hw hw 51 rfl)) (Or.inr (own_hw hw 53 rfl)) (by decide) (t := .long) (t' := .long) (by decide) (by decide)))
  have z175 := Nat.le_trans z161 (Keep.of_wr W167).1
  have K176 := K162.wr W167 (Or.inl (List.mem_of_getElem? (i := 0) rfl))
  have f177 := f152.same W167
  have N178 := Fr.snoc X167 N164 g_o
  refine own_aloadN X167 hx 35 rfl (hb hby own_d5_34) rfl rfl ?_
  refine own_aloadN X167 hx 36 rfl (hb hby own_d5_35) rfl rfl ?_
  refine own_getF X167 hx hZ (host := "") hown (Or.inl (own_hw hw 50 rfl)) Via.refl e167 f174 39 rfl (hb hby own_d5_36) fun T179 X179 e179 => ?_
  refine own_aloadN X179 hx 40 rfl (hb hby own_d5_39) rfl rfl ?_
  refine own_getF X179 hx hZ (host := "") hown (Or.inl (own_hw hw 42 rfl)) Via.refl e179 f173 43 rfl (hb hby own_d5_40) fun T180 X180 e180 => ?_
  refine own_i2l X180 hx 44 rfl (hb hby own_d5_43) _ rfl ?_
  refine own_lrem X180 hx 45 rfl (hb hby own_d5_44) hk _ rfl ?_
  refine own_putF X180 hx hZ (host := "") hown (Or.inl (own_hw hw 54 rfl)) Via.refl e180 f169 f168 (Or.inr ⟨(own_hw hw 55 rfl), rfl, hnm⟩) (own_hw hw 31 rfl) (ty := .long) (by decide) rfl rfl 48 rfl (hb hby own_d5_45) fun T181 h181 X181 e181 W181 => ?_
  have f182 := f168.wr W181
  have f183 := f170.other W181 (Or.inr (slot_ne (Or.inr (own_hw hw 57 rfl)) (Or.inr (own_hw hw 55 rfl)) (by decide) (t := .double) (t' := .long) (by decide) (by decide)))
  have f184 := f171.other W181 (Or.inr (slot_ne (Or.inr (own_hw hw 59 rfl)) (Or.inr (own_hw hw 55 rfl)) (by decide) (t := .long) (t' := .long) (by decide) (by decide)))
  have f185 := f172.other W181 (Or.inr (slot_ne (Or.inr (own_hw hw 61 rfl)) (Or.inr (own_hw hw 55 rfl)) (by decide) (t := .long) (t' := .long) (by decide) (by decide)))
  have f186 := f173.other W181 (Or.inr (slot_ne (Or.inr (own_hw hw 43 rfl)) (Or.inr (own_hw hw 55 rfl)) (by decide) (t := .int) (t' := .long) (by decide) (by decide)))
  have f187 := f174.other W181 (Or.inr (slot_ne (Or.inr (own_hw hw 51 rfl)) (Or.inr (own_hw hw 55 rfl)) (by decide) (t := .long) (t' := .long) (by decide) (by decide)))
  have f188 := f177.other W181 (Or.inr (slot_ne (Or.inr (own_hw hw 53 rfl)) (Or.inr (own_hw hw 55 rfl)) (by decide) (t := .long) (t' := .long) (by decide) (by decide)))
  have z189 := Nat.le_trans z175 (Keep.of_wr W181).1
  have K190 := K176.wr W181 (Or.inl (List.mem_of_getElem? (i := 0) rfl))
  have f191 := f169.same W181
  have N192 := Fr.snoc X181 N178 g_o
  refine own_aloadN X181 hx 49 rfl (hb hby own_d5_48) rfl rfl ?_
  refine own_aloadN X181 hx 50 rfl (hb hby own_d5_49) rfl rfl ?_
  refine own_getF X181 hx hZ (host := "") hown (Or.inl (own_hw hw 50 rfl)) Via.refl e181 f187 53 rfl (hb hby own_d5_50) fun T193 X193 e193 => ?_
  refine own_l2d X193 hx 54 rfl (hb hby own_d5_53) _ rfl ?_
  refine own_aloadN X193 hx 55 rfl (hb hby own_d5_54) rfl rfl ?_
  refine own_getF X193 hx hZ (host := "") hown (Or.inl (own_hw hw 42 rfl)) Via.refl e193 f186 58 rfl (hb hby own_d5_55) fun T194 X194 e194 => ?_
  refine own_i2d X194 hx 59 rfl (hb hby own_d5_58) _ rfl ?_
  refine own_ddiv X194 hx 60 rfl (hb hby own_d5_59) (ddiv_out (l2d_fin (ms * (1000000 : Int64))).noNaN (i2d_fin k) (i2d_nz hk0)) _ rfl ?_
  refine own_putF X194 hx hZ (host := "") hown (Or.inl (own_hw hw 56 rfl)) Via.refl e194 f183 f182 (Or.inr ⟨(own_hw hw 57 rfl), rfl, hnm⟩) (own_hw hw 31 rfl) (ty := .double) (by decide) rfl rfl 63 rfl (hb hby own_d5_60) fun T195 h195 X195 e195 W195 => ?_
  have f196 := f182.wr W195
  have f197 := f184.other W195 (Or.inr (slot_ne (Or.inr (own_hw hw 59 rfl)) (Or.inr (own_hw hw 57 rfl)) (by decide) (t := .long) (t' := .double) (by decide) (by decide)))
  have f198 := f185.other W195 (Or.inr (slot_ne (Or.inr (own_hw hw 61 rfl)) (Or.inr (own_hw hw 57 rfl)) (by decide) (t := .long) (t' := .double) (by decide) (by decide)))
  have f199 := f186.other W195 (Or.inr (slot_ne (Or.inr (own_hw hw 43 rfl)) (Or.inr (own_hw hw 57 rfl)) (by decide) (t := .int) (t' := .double) (by decide) (by decide)))
  have f200 := f187.other W195 (Or.inr (slot_ne (Or.inr (own_hw hw 51 rfl)) (Or.inr (own_hw hw 57 rfl)) (by decide) (t := .long) (t' := .double) (by decide) (by decide)))
  have f201 := f188.other W195 (Or.inr (slot_ne (Or.inr (own_hw hw 53 rfl)) (Or.inr (own_hw hw 57 rfl)) (by decide) (t := .long) (t' := .double) (by decide) (by decide)))
  have f202 := f191.other W195 (Or.inr (slot_ne (Or.inr (own_hw hw 55 rfl)) (Or.inr (own_hw hw 57 rfl)) (by decide) (t := .long) (t' := .double) (by decide) (by decide)))
  have z203 := Nat.le_trans z189 (Keep.of_wr W195).1
  have K204 := K190.wr W195 (Or.inl (List.mem_of_getElem? (i := 0) rfl))
  have f205 := f183.same W195
  have N206 := Fr.snoc X195 N192 g_o
  refine own_aloadN X195 hx 64 rfl (hb hby own_d5_63) rfl rfl ?_
  refine own_getF X195 hx hZ (host := "") hown (Or.inl (own_hw hw 54 rfl)) Via.refl e195 f202 67 rfl (hb hby own_d5_64) fun T207 X207 e207 => ?_
  refine own_lconst X207 hx 68 rfl (hb hby own_d5_67) (0 : Int64) rfl ?_
  refine own_lcmp X207 hx 69 rfl (hb hby own_d5_68) _ rfl ?_
  by_cases hc208 : ((ms * (1000000 : Int64)) % k.toInt64) = (0 : Int64)
  ·
    refine own_ifNo X207 hx 72 rfl (hb hby own_d5_69) ((if0 _ _).trans (teq ((lw_eq _ _).mpr hc208)).2) ?_
    refine own_aloadN X207 hx 73 rfl (hb hby own_d5_72) rfl rfl ?_
    refine own_aloadN X207 hx 74 rfl (hb hby own_d5_73) rfl rfl ?_
    refine own_getF X207 hx hZ (host := "") hown (Or.inl (own_hw hw 50 rfl)) Via.refl e207 f200 77 rfl (hb hby own_d5_74) fun T209 X209 e209 => ?_
    refine own_aloadN X209 hx 78 rfl (hb hby own_d5_77) rfl rfl ?_
    refine own_getF X209 hx hZ (host := "") hown (Or.inl (own_hw hw 52 rfl)) Via.refl e209 f201 81 rfl (hb hby own_d5_78) fun T210 X210 e210 => ?_
    refine own_lsub X210 hx 82 rfl (hb hby own_d5_81) _ rfl ?_
    refine own_putF X210 hx hZ (host := "") hown (Or.inl (own_hw hw 58 rfl)) Via.refl e210 f197 f196 (Or.inr ⟨(own_hw hw 59 rfl), rfl, hnm⟩) (own_hw hw 31 rfl) (ty := .long) (by decide) rfl rfl 85 rfl (hb hby own_d5_82) fun T211 h211 X211 e211 W211 => ?_
    have f212 := f196.wr W211
    have f213 := f198.other W211 (Or.inr (slot_ne (Or.inr (own_hw hw 61 rfl)) (Or.inr (own_hw hw 59 rfl)) (by decide) (t := .long) (t' := .long) (by decide) (by decide)))
    have f214 := f199.other W211 (Or.inr (slot_ne (Or.inr (own_hw hw 43 rfl)) (Or.inr (own_hw hw 59 rfl)) (by decide) (t := .int) (t' := .long) (by decide) (by decide)))
    have f215 := f200.other W211 (Or.inr (slot_ne (Or.inr (own_hw hw 51 rfl)) (Or.inr (own_hw hw 59 rfl)) (by decide) (t := .long) (t' := .long) (by decide) (by decide)))
    have f216 := f201.other W211 (Or.inr (slot_ne (Or.inr (own_hw hw 53 rfl)) (Or.inr (own_hw hw 59 rfl)) (by decide) (t := .long) (t' := .long) (by decide) (by decide)))
    have f217 := f202.other W211 (Or.inr (slot_ne (Or.inr (own_hw hw 55 rfl)) (Or.inr (own_hw hw 59 rfl)) (by decide) (t := .long) (t' := .long) (by decide) (by decide)))
    have f218 := f205.other W211 (Or.inr (slot_ne (Or.inr (own_hw hw 57 rfl)) (Or.inr (own_hw hw 59 rfl)) (by decide) (t := .double) (t' := .long) (by decide) (by decide)))
    have z219 := Nat.le_trans z203 (Keep.of_wr W211).1
    have K220 := K204.wr W211 (Or.inl (List.mem_of_getElem? (i := 0) rfl))
    have f221 := f197.same W211
    have N222 := Fr.snoc X211 N206 g_o
    refine own_aloadN X211 hx 86 rfl (hb hby own_d5_85) rfl rfl ?_
    refine own_lconst X211 hx 87 rfl (hb hby own_d5_86) (0 : Int64) rfl ?_
    refine own_putF X211 hx hZ (host := "") hown (Or.inl (own_hw hw 60 rfl)) Via.refl e211 f213 f212 (Or.inr ⟨(own_hw hw 61 rfl), rfl, hnm⟩) (own_hw hw 31 rfl) (ty := .long) (by decide) rfl rfl 90 rfl (hb hby own_d5_87) fun T223 h223 X223 e223 W223 => ?_
    have f224 := f212.wr W223
    have f225 := f214.other W223 (Or.inr (slot_ne (Or.inr (own_hw hw 43 rfl)) (Or.inr (own_hw hw 61 rfl)) (by decide) (t := .int) (t' := .long) (by decide) (by decide)))
    have f226 := f215.other W223 (Or.inr (slot_ne (Or.inr (own_hw hw 51 rfl)) (Or.inr (own_hw hw 61 rfl)) (by decide) (t := .long) (t' := .long) (by decide) (by decide)))
    have f227 := f216.other W223 (Or.inr (slot_ne (Or.inr (own_hw hw 53 rfl)) (Or.inr (own_hw hw 61 rfl)) (by decide) (t := .long) (t' := .long) (by decide) (by decide)))
    have f228 := f217.other W223 (Or.inr (slot_ne (Or.inr (own_hw hw 55 rfl)) (Or.inr (own_hw hw 61 rfl)) (by decide) (t := .long) (t' := .long) (by decide) (by decide)))
    have f229 := f218.other W223 (Or.inr (slot_ne (Or.inr (own_hw hw 57 rfl)) (Or.inr (own_hw hw 61 rfl)) (by decide) (t := .double) (t' := .long) (by decide) (by decide)))
    have f230 := f221.other W223 (Or.inr (slot_ne (Or.inr (own_hw hw 59 rfl)) (Or.inr (own_hw hw 61 rfl)) (by decide) (t := .long) (t' := .long) (by decide) (by decide)))
    have z231 := Nat.le_trans z219 (Keep.of_wr W223).1
    have K232 := K220.wr W223 (Or.inl (List.mem_of_getElem? (i := 0) rfl))
    have f233 := f213.same W223
    have N234 := Fr.snoc X223 N222 g_o
    refine own_goto X223 hx 122 (hb hby own_d5_90) (by decide) rfl ?_
    refine own_ret X223 none (fun _ => rfl) Bd.notSynchronized (by decide) (by decide) ?_ (fun fs hr => X223.returnOut hx Bd.returns (hb hby own_d5_122) hr)
    show Q_rm_per Z o q k ms h0 n0 _ T223.heap _
    rw [e223]
    exact ⟨rfl, N234, K232, f224, f225, f227, f228⟩
  ·
    refine own_ifYes X207 hx 93 (hb hby own_d5_69) ((if0 _ _).trans (feq (fun z => hc208 ((lw_eq _ _).mp z))).2) (by decide) rfl ?_
    refine own_aloadN X207 hx 94 rfl (hb hby own_d5_93) rfl rfl ?_
    refine own_aloadN X207 hx 95 rfl (hb hby own_d5_94) rfl rfl ?_
    refine own_getF X207 hx hZ (host := "") hown (Or.inl (own_hw hw 50 rfl)) Via.refl e207 f200 98 rfl (hb hby own_d5_95) fun T235 X235 e235 => ?_
    refine own_aloadN X235 hx 99 rfl (hb hby own_d5_98) rfl rfl ?_
    refine own_getF X235 hx hZ (host := "") hown (Or.inl (own_hw hw 52 rfl)) Via.refl e235 f201 102 rfl (hb hby own_d5_99) fun T236 X236 e236 => ?_
    refine own_lsub X236 hx 103 rfl (hb hby own_d5_102) _ rfl ?_
    refine own_lconst X236 hx 104 rfl (hb hby own_d5_103) (1 : Int64) rfl ?_
    refine own_lsub X236 hx 105 rfl (hb hby own_d5_104) _ rfl ?_
    refine own_putF X236 hx hZ (host := "") hown (Or.inl (own_hw hw 58 rfl)) Via.refl e236 f197 f196 (Or.inr ⟨(own_hw hw 59 rfl), rfl, hnm⟩) (own_hw hw 31 rfl) (ty := .long) (by decide) rfl rfl 108 rfl (hb hby own_d5_105) fun T237 h237 X237 e237 W237 => ?_
    have f238 := f196.wr W237
    have f239 := f198.other W237 (Or.inr (slot_ne (Or.inr (own_hw hw 61 rfl)) (Or.inr (own_hw hw 59 rfl)) (by decide) (t := .long) (t' := .long) (by decide) (by decide)))
    have f240 := f199.other W237 (Or.inr (slot_ne (Or.inr (own_hw hw 43 rfl)) (Or.inr (own_hw hw 59 rfl)) (by decide) (t := .int) (t' := .long) (by decide) (by decide)))
    have f241 := f200.other W237 (Or.inr (slot_ne (Or.inr (own_hw hw 51 rfl)) (Or.inr (own_hw hw 59 rfl)) (by decide) (t := .long) (t' := .long) (by decide) (by decide)))
    have f242 := f201.other W237 (Or.inr (slot_ne (Or.inr (own_hw hw 53 rfl)) (Or.inr (own_hw hw 59 rfl)) (by decide) (t := .long) (t' := .long) (by decide) (by decide)))
    have f243 := f202.other W237 (Or.inr (slot_ne (Or.inr (own_hw hw 55 rfl)) (Or.inr (own_hw hw 59 rfl)) (by decide) (t := .long) (t' := .long) (by decide) (by decide)))
    have f244 := f205.other W237 (Or.inr (slot_ne (Or.inr (own_hw hw 57 rfl)) (Or.inr (own_hw hw 59 rfl)) (by decide) (t := .double) (t' := .long) (by decide) (by decide)))
    have z245 := Nat.le_trans z203 (Keep.of_wr W237).1
    have K246 := K204.wr W237 (Or.inl (List.mem_of_getElem? (i := 0) rfl))
    have f247 := f197.same W237
    have N248 := Fr.snoc X237 N206 g_o
    refine own_aloadN X237 hx 109 rfl (hb hby own_d5_108) rfl rfl ?_
    refine own_aloadN X237 hx 110 rfl (hb hby own_d5_109) rfl rfl ?_
    refine own_getF X237 hx hZ (host := "") hown (Or.inl (own_hw hw 42 rfl)) Via.refl e237 f240 113 rfl (hb hby own_d5_110) fun T249 X249 e249 => ?_
    refine own_i2l X249 hx 114 rfl (hb hby own_d5_113) _ rfl ?_
    refine own_aloadN X249 hx 115 rfl (hb hby own_d5_114) rfl rfl ?_
    refine own_getF X249 hx hZ (host := "") hown (Or.inl (own_hw hw 54 rfl)) Via.refl e249 f243 118 rfl (hb hby own_d5_115) fun T250 X250 e250 => ?_
    refine own_lsub X250 hx 119 rfl (hb hby own_d5_118) _ rfl ?_
    refine own_putF X250 hx hZ (host := "") hown (Or.inl (own_hw hw 60 rfl)) Via.refl e250 f239 f238 (Or.inr ⟨(own_hw hw 61 rfl), rfl, hnm⟩) (own_hw hw 31 rfl) (ty := .long) (by decide) rfl rfl 122 rfl (hb hby own_d5_119) fun T251 h251 X251 e251 W251 => ?_
    have f252 := f238.wr W251
    have f253 := f240.other W251 (Or.inr (slot_ne (Or.inr (own_hw hw 43 rfl)) (Or.inr (own_hw hw 61 rfl)) (by decide) (t := .int) (t' := .long) (by decide) (by decide)))
    have f254 := f241.other W251 (Or.inr (slot_ne (Or.inr (own_hw hw 51 rfl)) (Or.inr (own_hw hw 61 rfl)) (by decide) (t := .long) (t' := .long) (by decide) (by decide)))
    have f255 := f242.other W251 (Or.inr (slot_ne (Or.inr (own_hw hw 53 rfl)) (Or.inr (own_hw hw 61 rfl)) (by decide) (t := .long) (t' := .long) (by decide) (by decide)))
    have f256 := f243.other W251 (Or.inr (slot_ne (Or.inr (own_hw hw 55 rfl)) (Or.inr (own_hw hw 61 rfl)) (by decide) (t := .long) (t' := .long) (by decide) (by decide)))
    have f257 := f244.other W251 (Or.inr (slot_ne (Or.inr (own_hw hw 57 rfl)) (Or.inr (own_hw hw 61 rfl)) (by decide) (t := .double) (t' := .long) (by decide) (by decide)))
    have f258 := f247.other W251 (Or.inr (slot_ne (Or.inr (own_hw hw 59 rfl)) (Or.inr (own_hw hw 61 rfl)) (by decide) (t := .long) (t' := .long) (by decide) (by decide)))
    have z259 := Nat.le_trans z245 (Keep.of_wr W251).1
    have K260 := K246.wr W251 (Or.inl (List.mem_of_getElem? (i := 0) rfl))
    have f261 := f239.same W251
    have N262 := Fr.snoc X251 N248 g_o
    refine own_ret X251 none (fun _ => rfl) Bd.notSynchronized (by decide) (by decide) ?_ (fun fs hr => X251.returnOut hx Bd.returns (hb hby own_d5_122) hr)
    show Q_rm_per Z o q k ms h0 n0 _ T251.heap _
    rw [e251]
    exact ⟨rfl, N262, K260, f252, f253, f255, f256⟩
theorem own_pn2 : plainName "com/example/portunus/portunus/Periods$Debt" = true := by first | (simp [plainName, overriddenIn]; done) | decide +kernel
theorem own_ef_rm_debt (m : MethodId) (o : Addr) (t : Int64) : entryFrame m #[(.ref o), (.long t)] 3 = mkF m 0 #[.val (.ref o), .val (.long t), .second] [] := by first | (simp [entryFrame, mkF, argsToLocals, Value.category]; done) | rfl
def Q_rm_debt (Z : State) (o : Addr) (t : Int64) (h0 : Heap) (n0 : Nat) (v : Option Value) (h : Heap) (L : List Loc) : Prop := v = none ∧ Fr n0 L ∧ Keep h0 h [o] ∧ Exa Z h o "com/example/portunus/portunus/Periods$Debt" ∧ Fld Z h o "com/example/portunus/portunus/Periods$Debt" "time" "J" (.long t) ∧ Fld Z h o "com/example/portunus/portunus/Periods$Debt" "nanos" "J" (.long (0 : Int64)) ∧ Fld Z h o "com/example/portunus/portunus/Periods$Debt" "fraction" "I" (.int (0 : Int32))
theorem own_d8_0 : decode prog_16_method_1_code 0 = .ok (.aload_n 0, 1) := by decide +kernel
theorem own_d8_1 : decode prog_16_method_1_code 1 = .ok (.invokespecial 1, 3) := by decide +kernel
theorem own_d8_4 : decode prog_16_method_1_code 4 = .ok (.aload_n 0, 1) := by decide +kernel
theorem own_d8_5 : decode prog_16_method_1_code 5 = .ok (.lload_n 1, 1) := by decide +kernel
theorem own_d8_6 : decode prog_16_method_1_code 6 = .ok (.putfield 7, 3) := by decide +kernel
theorem own_d8_9 : decode prog_16_method_1_code 9 = .ok (.return_, 1) := by decide +kernel
set_option maxRecDepth 65536 in
set_option maxHeartbeats 40000000 in
theorem rm_debt (l : Launch) (Z : State) (a0 : Array Value) (hw : ∀ d ∈ tables_1, d.before a0 Z = true) (ws : List Jvm.Cond) (o : Addr) (t : Int64) (h0 : Heap) (n0 : Nat) (Z0 : n0 ≤ h0.size) (E1 : Exa Z h0 o "com/example/portunus/portunus/Periods$Debt") (F_time : Fld Z h0 o "com/example/portunus/portunus/Periods$Debt" "time" "J" (.long (0 : Int64))) (F_nanos : Fld Z h0 o "com/example/portunus/portunus/Periods$Debt" "nanos" "J" (.long (0 : Int64))) (F_fraction : Fld Z h0 o "com/example/portunus/portunus/Periods$Debt" "fraction" "I" (.int (0 : Int32))) (g_o : n0 ≤ o) :
    MetFree l (⟨"com/example/portunus/portunus/Periods$Debt", "<init>", "(J)V"⟩ : MethodName) (head1 (Jvm.Cond.code (⟨"com/example/portunus/portunus/Periods$Debt", "<init>", "(J)V"⟩ : MethodName) prog_16_method_1_code 3 none :: ws) ({ frames := 1, cells := 0, slots := 0, locals := 12 } : Room)) (fun aa U => aa = #[(.ref o), (.long t)] ∧ Z.Warmed39 U.vm ∧ U.heap = h0) (fun _ _ _ _ _ => True) (fun _ U ou U' => ∃ v L, ou = .returned v ∧ Q_rm_debt Z o t h0 n0 v U'.heap L ∧ FrameEnd U ou U' L ({ frames := 1, cells := 0, slots := 0, locals := 12 } : Room).cells ({ frames := 1, cells := 0, slots := 0, locals := 12 } : Room).slots) := by
  refine MetFree.of_bodySF (plainFor_of_name own_pn2) hisR ?_
  intro p e s m args below meth c s₁ Bd hml0 hP hK
  obtain ⟨rfl, hZ, hh⟩ := hP
  have hx := Bd.exec
  have hby := Bd.bytes
  have hml : c.maxLocals = 3 := hml0
  have hown : s.vm.findClass "com/example/portunus/portunus/Periods$Debt" = some m.cls := findClass_of_methodNamed Bd.named
  have hnm := (name_of_methodNamed Bd.named Bd.method).1
  have X0 : Stand p l e ({ frames := 1, cells := 0, slots := 0, locals := 12 } : Room) s m #[(.ref o), (.long t)] below meth c s₁ [] 0 0 := Stand.of_body Bd
  have e0 : s₁.heap = h0 := by rw [← hh, Bd.state]; rfl
  have N0 := Fr.nil n0
  have K0 := Keep.refl h0 [o]
  show own_Go p e below (fun o u L => FrameEnd s o u L ({ frames := 1, cells := 0, slots := 0, locals := 12 } : Room).cells ({ frames := 1, cells := 0, slots := 0, locals := 12 } : Room).slots) (Q_rm_debt Z o t h0 n0) (s₁.setTop (entryFrame m #[(.ref o), (.long t)] 3))
  rw [own_ef_rm_debt m o t]
  show own_Go _ _ _ _ _ (State.setTop _ (mkF _ 0 #[.val (.ref o), .val (.long t), .second] []))
  refine own_aloadN X0 hx 1 rfl (hb hby own_d8_0) rfl rfl ?_
  refine own_initO X0 hx hZ hown (own_hw hw 68 rfl) (own_hw hw 21 rfl) (own_hw hw 22 rfl) e0 (by rw [hml]; rfl) 4 rfl (hb hby own_d8_1) (by decide) 0 (Nat.le_of_eq rfl) (by decide) fun T263 X263 e263 => ?_
  refine own_aloadN X263 hx 5 rfl (hb hby own_d8_4) rfl rfl ?_
  refine own_lloadN X263 hx 6 rfl (hb hby own_d8_5) rfl ?_
  refine own_putF X263 hx hZ (host := "") hown (Or.inl (own_hw hw 69 rfl)) Via.refl e263 F_time E1 (Or.inl (own_hw hw 70 rfl)) (own_hw hw 63 rfl) (ty := .long) (by decide) rfl rfl 9 rfl (hb hby own_d8_6) fun T264 h264 X264 e264 W264 => ?_
  have f265 := E1.wr W264
  have f266 := F_nanos.other W264 (Or.inr (slot_ne (Or.inl (own_hw hw 79 rfl)) (Or.inl (own_hw hw 70 rfl)) (by decide) (t := .long) (t' := .long) (by decide) (by decide)))
  have f267 := F_fraction.other W264 (Or.inr (slot_ne (Or.inl (own_hw hw 77 rfl)) (Or.inl (own_hw hw 70 rfl)) (by decide) (t := .int) (t' := .long) (by decide) (by decide)))
  have z268 := Nat.le_trans Z0 (Keep.of_wr W264).1
  have K269 := K0.wr W264 (Or.inl (List.mem_of_getElem? (i := 0) rfl))
  have f270 := F_time.same W264
  have N271 := Fr.snoc X264 N0 g_o
  refine own_ret X264 none (fun _ => rfl) Bd.notSynchronized (by decide) (by decide) ?_ (fun fs hr => X264.returnOut hx Bd.returns (hb hby own_d8_9) hr)
  show Q_rm_debt Z o t h0 n0 _ T264.heap _
  rw [e264]
  exact ⟨rfl, N271, K269, f265, f270, f266, f267⟩
theorem own_ef_rm_addp (m : MethodId) (o : Addr) (b : Addr) : entryFrame m #[(.ref o), (.ref b)] 4 = mkF m 0 #[.val (.ref o), .val (.ref b), .unset, .unset] [] := by first | (simp [entryFrame, mkF, argsToLocals, Value.category]; done) | rfl
def Q_rm_addp (Z : State) (o : Addr) (b : Addr) (k : Int32) (q : Int64) (r : Int64) (t : Int64) (a : Int64) (f : Int32) (h0 : Heap) (n0 : Nat) (v : Option Value) (h : Heap) (L : List Loc) : Prop := v = none ∧ Fr n0 L ∧ Keep h0 h [b] ∧ Exa Z h b "com/example/portunus/portunus/Periods$Debt" ∧ Fld Z h b "com/example/portunus/portunus/Periods$Debt" "time" "J" (.long t) ∧ Fld Z h b "com/example/portunus/portunus/Periods$Debt" "nanos" "J" (.long (a + (q + (f.toInt64 + r) / k.toInt64))) ∧ Fld Z h b "com/example/portunus/portunus/Periods$Debt" "fraction" "I" (.int (((f.toInt64 + r) % k.toInt64).toInt32))
theorem own_d9_0 : decode prog_15_method_3_code 0 = .ok (.aload_n 1, 1) := by decide +kernel
theorem own_d9_1 : decode prog_15_method_3_code 1 = .ok (.getfield 48, 3) := by decide +kernel
theorem own_d9_4 : decode prog_15_method_3_code 4 = .ok (.i2l, 1) := by decide +kernel
theorem own_d9_5 : decode prog_15_method_3_code 5 = .ok (.aload_n 0, 1) := by decide +kernel
theorem own_d9_6 : decode prog_15_method_3_code 6 = .ok (.getfield 30, 3) := by decide +kernel
theorem own_d9_9 : decode prog_15_method_3_code 9 = .ok (.ladd, 1) := by decide +kernel
theorem own_d9_10 : decode prog_15_method_3_code 10 = .ok (.lstore_n 2, 1) := by decide +kernel
theorem own_d9_11 : decode prog_15_method_3_code 11 = .ok (.aload_n 1, 1) := by decide +kernel
theorem own_d9_12 : decode prog_15_method_3_code 12 = .ok (.dup, 1) := by decide +kernel
theorem own_d9_13 : decode prog_15_method_3_code 13 = .ok (.getfield 43, 3) := by decide +kernel
theorem own_d9_16 : decode prog_15_method_3_code 16 = .ok (.aload_n 0, 1) := by decide +kernel
theorem own_d9_17 : decode prog_15_method_3_code 17 = .ok (.getfield 27, 3) := by decide +kernel
theorem own_d9_20 : decode prog_15_method_3_code 20 = .ok (.lload_n 2, 1) := by decide +kernel
theorem own_d9_21 : decode prog_15_method_3_code 21 = .ok (.aload_n 0, 1) := by decide +kernel
theorem own_d9_22 : decode prog_15_method_3_code 22 = .ok (.getfield 13, 3) := by decide +kernel
theorem own_d9_25 : decode prog_15_method_3_code 25 = .ok (.i2l, 1) := by decide +kernel
theorem own_d9_26 : decode prog_15_method_3_code 26 = .ok (.ldiv, 1) := by decide +kernel
theorem own_d9_27 : decode prog_15_method_3_code 27 = .ok (.ladd, 1) := by decide +kernel
theorem own_d9_28 : decode prog_15_method_3_code 28 = .ok (.ladd, 1) := by decide +kernel
theorem own_d9_29 : decode prog_15_method_3_code 29 = .ok (.putfield 43, 3) := by decide +kernel
theorem own_d9_32 : decode prog_15_method_3_code 32 = .ok (.aload_n 1, 1) := by decide +kernel
theorem own_d9_33 : decode prog_15_method_3_code 33 = .ok (.lload_n 2, 1) := by decide +kernel
theorem own_d9_34 : decode prog_15_method_3_code 34 = .ok (.aload_n 0, 1) := by decide +kernel
theorem own_d9_35 : decode prog_15_method_3_code 35 = .ok (.getfield 13, 3) := by decide +kernel
theorem own_d9_38 : decode prog_15_method_3_code 38 = .ok (.i2l, 1) := by decide +kernel
theorem own_d9_39 : decode prog_15_method_3_code 39 = .ok (.lrem, 1) := by decide +kernel
theorem own_d9_40 : decode prog_15_method_3_code 40 = .ok (.l2i, 1) := by decide +kernel
theorem own_d9_41 : decode prog_15_method_3_code 41 = .ok (.putfield 48, 3) := by decide +kernel
theorem own_d9_44 : decode prog_15_method_3_code 44 = .ok (.return_, 1) := by decide +kernel
set_option maxRecDepth 65536 in
set_option maxHeartbeats 40000000 in
theorem rm_addp (l : Launch) (Z : State) (a0 : Array Value) (hw : ∀ d ∈ tables_1, d.before a0 Z = true) (ws : List Jvm.Cond) (o : Addr) (b : Addr) (k : Int32) (q : Int64) (r : Int64) (t : Int64) (a : Int64) (f : Int32) (h0 : Heap) (n0 : Nat) (Z0 : n0 ≤ h0.size) (Fk : Fld Z h0 o "com/example/portunus/portunus/Periods" "maxRequests" "I" (.int k)) (Fq : Fld Z h0 o "com/example/portunus/portunus/Periods" "periodNanos" "J" (.long q)) (Fr' : Fld Z h0 o "com/example/portunus/portunus/Periods" "periodFraction" "J" (.long r)) (D0 : Exa Z h0 b "com/example/portunus/portunus/Periods$Debt") (D1 : Fld Z h0 b "com/example/portunus/portunus/Periods$Debt" "time" "J" (.long t)) (D2 : Fld Z h0 b "com/example/portunus/portunus/Periods$Debt" "nanos" "J" (.long a)) (D3 : Fld Z h0 b "com/example/portunus/portunus/Periods$Debt" "fraction" "I" (.int f)) (hne : o ≠ b) (g_b : n0 ≤ b) (hk : ¬ k.toInt64 = 0) :
    MetFree l (⟨"com/example/portunus/portunus/Periods", "addPeriod", "(Lcom/example/portunus/portunus/Periods$Debt;)V"⟩ : MethodName) (head1 (Jvm.Cond.code (⟨"com/example/portunus/portunus/Periods", "addPeriod", "(Lcom/example/portunus/portunus/Periods$Debt;)V"⟩ : MethodName) prog_15_method_3_code 4 none :: ws) ({ frames := 0, cells := 0, slots := 0, locals := 0 } : Room)) (fun aa U => aa = #[(.ref o), (.ref b)] ∧ Z.Warmed39 U.vm ∧ U.heap = h0) (fun _ _ _ _ _ => True) (fun _ U ou U' => ∃ v L, ou = .returned v ∧ Q_rm_addp Z o b k q r t a f h0 n0 v U'.heap L ∧ FrameEnd U ou U' L ({ frames := 0, cells := 0, slots := 0, locals := 0 } : Room).cells ({ frames := 0, cells := 0, slots := 0, locals := 0 } : Room).slots) := by
  refine MetFree.of_bodySF (plainFor_of_name own_pn1) hisR ?_
  intro p e s m args below meth c s₁ Bd hml0 hP hK
  obtain ⟨rfl, hZ, hh⟩ := hP
  have hx := Bd.exec
  have hby := Bd.bytes
  have hml : c.maxLocals = 4 := hml0
  have hown : s.vm.findClass "com/example/portunus/portunus/Periods" = some m.cls := findClass_of_methodNamed Bd.named
  have hnm := (name_of_methodNamed Bd.named Bd.method).1
  have X0 : Stand p l e ({ frames := 0, cells := 0, slots := 0, locals := 0 } : Room) s m #[(.ref o), (.ref b)] below meth c s₁ [] 0 0 := Stand.of_body Bd
  have e0 : s₁.heap = h0 := by rw [← hh, Bd.state]; rfl
  have N0 := Fr.nil n0
  have K0 := Keep.refl h0 [b]
  show own_Go p e below (fun o u L => FrameEnd s o u L ({ frames := 0, cells := 0, slots := 0, locals := 0 } : Room).cells ({ frames := 0, cells := 0, slots := 0, locals := 0 } : Room).slots) (Q_rm_addp Z o b k q r t a f h0 n0) (s₁.setTop (entryFrame m #[(.ref o), (.ref b)] 4))
  rw [own_ef_rm_addp m o b]
  show own_Go _ _ _ _ _ (State.setTop _ (mkF _ 0 #[.val (.ref o), .val (.ref b), .unset, .unset] []))
  refine own_aloadN X0 hx 1 rfl (hb hby own_d9_0) rfl rfl ?_
  refine own_getFRc X0 hx hZ hown (own_hw hw 76 rfl) e0 D3 4 rfl (hb hby own_d9_1) fun T272 X272 e272 => ?_
  refine own_i2l X272 hx 5 rfl (hb hby own_d9_4) _ rfl ?_
  refine own_aloadN X272 hx 6 rfl (hb hby own_d9_5) rfl rfl ?_
  refine own_getF X272 hx hZ (host := "") hown (Or.inl (own_hw hw 54 rfl)) Via.refl e272 Fr' 9 rfl (hb hby own_d9_6) fun T273 X273 e273 => ?_
  refine own_ladd X273 hx 10 rfl (hb hby own_d9_9) _ rfl ?_
  refine own_lstoreN X273 hx 11 rfl (hb hby own_d9_10) #[.val (.ref o), .val (.ref b), .val (.long ((f.toInt64) + r)), .second] rfl ?_
  refine own_aloadN X273 hx 12 rfl (hb hby own_d9_11) rfl rfl ?_
  refine own_dup X273 hx 13 rfl (hb hby own_d9_12) rfl ?_
  refine own_getFRc X273 hx hZ hown (own_hw hw 78 rfl) e273 D2 16 rfl (hb hby own_d9_13) fun T274 X274 e274 => ?_
  refine own_aloadN X274 hx 17 rfl (hb hby own_d9_16) rfl rfl ?_
  refine own_getF X274 hx hZ (host := "") hown (Or.inl (own_hw hw 52 rfl)) Via.refl e274 Fq 20 rfl (hb hby own_d9_17) fun T275 X275 e275 => ?_
  refine own_lloadN X275 hx 21 rfl (hb hby own_d9_20) rfl ?_
  refine own_aloadN X275 hx 22 rfl (hb hby own_d9_21) rfl rfl ?_
  refine own_getF X275 hx hZ (host := "") hown (Or.inl (own_hw hw 42 rfl)) Via.refl e275 Fk 25 rfl (hb hby own_d9_22) fun T276 X276 e276 => ?_
  refine own_i2l X276 hx 26 rfl (hb hby own_d9_25) _ rfl ?_
  refine own_ldiv X276 hx 27 rfl (hb hby own_d9_26) hk _ rfl ?_
  refine own_ladd X276 hx 28 rfl (hb hby own_d9_27) _ rfl ?_
  refine own_ladd X276 hx 29 rfl (hb hby own_d9_28) _ rfl ?_
  refine own_putFRc X276 hx hZ hown (own_hw hw 78 rfl) e276 D2 D0 (own_hw hw 79 rfl) (own_hw hw 63 rfl) (ty := .long) (by decide) rfl rfl 32 rfl (hb hby own_d9_29) fun T277 h277 X277 e277 W277 => ?_
  have f278 := Fk.other W277 (Or.inl hne)
  have f279 := Fq.other W277 (Or.inl hne)
  have f280 := Fr'.other W277 (Or.inl hne)
  have f281 := D0.wr W277
  have f282 := D1.other W277 (Or.inr (slot_ne (Or.inl (own_hw hw 70 rfl)) (Or.inl (own_hw hw 79 rfl)) (by decide) (t := .long) (t' := .long) (by decide) (by decide)))
  have f283 := D3.other W277 (Or.inr (slot_ne (Or.inl (own_hw hw 77 rfl)) (Or.inl (own_hw hw 79 rfl)) (by decide) (t := .int) (t' := .long) (by decide) (by decide)))
  have z284 := Nat.le_trans Z0 (Keep.of_wr W277).1
  have K285 := K0.wr W277 (Or.inl (List.mem_of_getElem? (i := 0) rfl))
  have f286 := D2.same W277
  have N287 := Fr.snoc X277 N0 g_b
  refine own_aloadN X277 hx 33 rfl (hb hby own_d9_32) rfl rfl ?_
  refine own_lloadN X277 hx 34 rfl (hb hby own_d9_33) rfl ?_
  refine own_aloadN X277 hx 35 rfl (hb hby own_d9_34) rfl rfl ?_
  refine own_getF X277 hx hZ (host := "") hown (Or.inl (own_hw hw 42 rfl)) Via.refl e277 f278 38 rfl (hb hby own_d9_35) fun T288 X288 e288 => ?_
  refine own_i2l X288 hx 39 rfl (hb hby own_d9_38) _ rfl ?_
  refine own_lrem X288 hx 40 rfl (hb hby own_d9_39) hk _ rfl ?_
  refine own_l2i X288 hx 41 rfl (hb hby own_d9_40) _ rfl ?_
  refine own_putFRc X288 hx hZ hown (own_hw hw 76 rfl) e288 f283 f281 (own_hw hw 77 rfl) (own_hw hw 63 rfl) (ty := .int) (by decide) rfl rfl 44 rfl (hb hby own_d9_41) fun T289 h289 X289 e289 W289 => ?_
  have f290 := f278.other W289 (Or.inl hne)
  have f291 := f279.other W289 (Or.inl hne)
  have f292 := f280.other W289 (Or.inl hne)
  have f293 := f281.wr W289
  have f294 := f282.other W289 (Or.inr (slot_ne (Or.inl (own_hw hw 70 rfl)) (Or.inl (own_hw hw 77 rfl)) (by decide) (t := .long) (t' := .int) (by decide) (by decide)))
  have f295 := f286.other W289 (Or.inr (slot_ne (Or.inl (own_hw hw 79 rfl)) (Or.inl (own_hw hw 77 rfl)) (by decide) (t := .long) (t' := .int) (by decide) (by decide)))
  have z296 := Nat.le_trans z284 (Keep.of_wr W289).1
  have K297 := K285.wr W289 (Or.inl (List.mem_of_getElem? (i := 0) rfl))
  have f298 := f283.same W289
  have N299 := Fr.snoc X289 N287 g_b
  refine own_ret X289 none (fun _ => rfl) Bd.notSynchronized (by decide) (by decide) ?_ (fun fs hr => X289.returnOut hx Bd.returns (hb hby own_d9_44) hr)
  show Q_rm_addp Z o b k q r t a f h0 n0 _ T289.heap _
  rw [e289]
  exact ⟨rfl, N299, K297, f293, f294, f295, f298⟩
theorem own_ef_rm_up (m : MethodId) (o : Addr) : entryFrame m #[(.ref o)] 1 = mkF m 0 #[.val (.ref o)] [] := by first | (simp [entryFrame, mkF, argsToLocals, Value.category]; done) | rfl
def Q_rm_up (Z : State) (o : Addr) (a : Int64) (f : Int32) (h0 : Heap) (n0 : Nat) (v : Option Value) (h : Heap) (L : List Loc) : Prop := v = some (.long (own_up a f)) ∧ Fr n0 L ∧ h = h0
theorem own_d10_0 : decode prog_16_method_4_code 0 = .ok (.aload_n 0, 1) := by decide +kernel
theorem own_d10_1 : decode prog_16_method_4_code 1 = .ok (.getfield 22, 3) := by decide +kernel
theorem own_d10_4 : decode prog_16_method_4_code 4 = .ok (.ifCond .le 12, 3) := by decide +kernel
theorem own_d10_7 : decode prog_16_method_4_code 7 = .ok (.aload_n 0, 1) := by decide +kernel
theorem own_d10_8 : decode prog_16_method_4_code 8 = .ok (.getfield 13, 3) := by decide +kernel
theorem own_d10_11 : decode prog_16_method_4_code 11 = .ok (.lconst 1, 1) := by decide +kernel
theorem own_d10_12 : decode prog_16_method_4_code 12 = .ok (.ladd, 1) := by decide +kernel
theorem own_d10_13 : decode prog_16_method_4_code 13 = .ok (.goto 7, 3) := by decide +kernel
theorem own_d10_20 : decode prog_16_method_4_code 20 = .ok (.lreturn, 1) := by decide +kernel
theorem own_d10_16 : decode prog_16_method_4_code 16 = .ok (.aload_n 0, 1) := by decide +kernel
theorem own_d10_17 : decode prog_16_method_4_code 17 = .ok (.getfield 13, 3) := by decide +kernel
set_option maxRecDepth 65536 in
set_option maxHeartbeats 40000000 in
theorem rm_up (l : Launch) (Z : State) (a0 : Array Value) (hw : ∀ d ∈ tables_1, d.before a0 Z = true) (ws : List Jvm.Cond) (o : Addr) (a : Int64) (f : Int32) (h0 : Heap) (n0 : Nat) (Z0 : n0 ≤ h0.size) (F1 : Fld Z h0 o "com/example/portunus/portunus/Periods$Debt" "nanos" "J" (.long a)) (F2 : Fld Z h0 o "com/example/portunus/portunus/Periods$Debt" "fraction" "I" (.int f)) :
    MetFree l (⟨"com/example/portunus/portunus/Periods$Debt", "roundedUp", "()J"⟩ : MethodName) (head1 (Jvm.Cond.code (⟨"com/example/portunus/portunus/Periods$Debt", "roundedUp", "()J"⟩ : MethodName) prog_16_method_4_code 1 (some .long) :: ws) ({ frames := 0, cells := 0, slots := 0, locals := 0 } : Room)) (fun aa U => aa = #[(.ref o)] ∧ Z.Warmed39 U.vm ∧ U.heap = h0) (fun _ _ _ _ _ => True) (fun _ U ou U' => ∃ v L, ou = .returned v ∧ Q_rm_up Z o a f h0 n0 v U'.heap L ∧ FrameEnd U ou U' L ({ frames := 0, cells := 0, slots := 0, locals := 0 } : Room).cells ({ frames := 0, cells := 0, slots := 0, locals := 0 } : Room).slots) := by
  refine MetFree.of_bodySF (plainFor_of_name own_pn2) hisR ?_
  intro p e s m args below meth c s₁ Bd hml0 hP hK
  obtain ⟨rfl, hZ, hh⟩ := hP
  have hx := Bd.exec
  have hby := Bd.bytes
  have hml : c.maxLocals = 1 := hml0
  have hown : s.vm.findClass "com/example/portunus/portunus/Periods$Debt" = some m.cls := findClass_of_methodNamed Bd.named
  have hnm := (name_of_methodNamed Bd.named Bd.method).1
  have X0 : Stand p l e ({ frames := 0, cells := 0, slots := 0, locals := 0 } : Room) s m #[(.ref o)] below meth c s₁ [] 0 0 := Stand.of_body Bd
  have e0 : s₁.heap = h0 := by rw [← hh, Bd.state]; rfl
  have N0 := Fr.nil n0
  show own_Go p e below (fun o u L => FrameEnd s o u L ({ frames := 0, cells := 0, slots := 0, locals := 0 } : Room).cells ({ frames := 0, cells := 0, slots := 0, locals := 0 } : Room).slots) (Q_rm_up Z o a f h0 n0) (s₁.setTop (entryFrame m #[(.ref o)] 1))
  rw [own_ef_rm_up m o]
  show own_Go _ _ _ _ _ (State.setTop _ (mkF _ 0 #[.val (.ref o)] []))
  refine own_aloadN X0 hx 1 rfl (hb hby own_d10_0) rfl rfl ?_
  refine own_getF X0 hx hZ (host := "") hown (Or.inl (own_hw hw 85 rfl)) Via.refl e0 F2 4 rfl (hb hby own_d10_1) fun T300 X300 e300 => ?_
  by_cases hc301 : 0 < f
  ·
    refine own_ifNo X300 hx 7 rfl (hb hby own_d10_4) ((if0 _ _).trans (tlt hc301).2.2.2) ?_
    refine own_aloadN X300 hx 8 rfl (hb hby own_d10_7) rfl rfl ?_
    refine own_getF X300 hx hZ (host := "") hown (Or.inl (own_hw hw 86 rfl)) Via.refl e300 F1 11 rfl (hb hby own_d10_8) fun T302 X302 e302 => ?_
    refine own_lconst X302 hx 12 rfl (hb hby own_d10_11) (1 : Int64) rfl ?_
    refine own_ladd X302 hx 13 rfl (hb hby own_d10_12) _ rfl ?_
    refine own_goto X302 hx 20 (hb hby own_d10_13) (by decide) rfl ?_
    refine own_ret X302 (some (.long (a + (1 : Int64)))) (fun h => by rw [Bd.returns] at h; cases h) Bd.notSynchronized (by decide) (by decide) ?_ (fun fs hr => own_retJ X302 hx Bd.returns (hb hby own_d10_20) hr)
    show Q_rm_up Z o a f h0 n0 _ T302.heap _
    rw [e302]
    exact ⟨by unfold own_up; rw [if_pos hc301], N0, rfl⟩
  ·
    refine own_ifYes X300 hx 16 (hb hby own_d10_4) ((if0 _ _).trans (flt hc301).2.2.2) (by decide) rfl ?_
    refine own_aloadN X300 hx 17 rfl (hb hby own_d10_16) rfl rfl ?_
    refine own_getF X300 hx hZ (host := "") hown (Or.inl (own_hw hw 86 rfl)) Via.refl e300 F1 20 rfl (hb hby own_d10_17) fun T303 X303 e303 => ?_
    refine own_ret X303 (some (.long a)) (fun h => by rw [Bd.returns] at h; cases h) Bd.notSynchronized (by decide) (by decide) ?_ (fun fs hr => own_retJ X303 hx Bd.returns (hb hby own_d10_20) hr)
    show Q_rm_up Z o a f h0 n0 _ T303.heap _
    rw [e303]
    exact ⟨by unfold own_up; rw [if_neg hc301], N0, rfl⟩
theorem own_pn3 : plainName "java/lang/Long" = true := by first | (simp [plainName, overriddenIn]; done) | decide +kernel
theorem own_ef_rm_lcmp (m : MethodId) (a : Int64) (b : Int64) : entryFrame m #[(.long a), (.long b)] 4 = mkF m 0 #[.val (.long a), .second, .val (.long b), .second] [] := by first | (simp [entryFrame, mkF, argsToLocals, Value.category]; done) | rfl
def Q_rm_lcmp (Z : State) (a : Int64) (b : Int64) (r : Int32) (h0 : Heap) (n0 : Nat) (v : Option Value) (h : Heap) (L : List Loc) : Prop := v = some (.int r) ∧ Fr n0 L ∧ h = h0
theorem own_d14_0 : decode jdk_35_method_42_code 0 = .ok (.lload_n 0, 1) := by decide +kernel
theorem own_d14_1 : decode jdk_35_method_42_code 1 = .ok (.lload_n 2, 1) := by decide +kernel
theorem own_d14_2 : decode jdk_35_method_42_code 2 = .ok (.lcmp, 1) := by decide +kernel
theorem own_d14_3 : decode jdk_35_method_42_code 3 = .ok (.ifCond .ge 7, 3) := by decide +kernel
theorem own_d14_6 : decode jdk_35_method_42_code 6 = .ok (.iconst (-1), 1) := by decide +kernel
theorem own_d14_7 : decode jdk_35_method_42_code 7 = .ok (.goto 14, 3) := by decide +kernel
theorem own_d14_21 : decode jdk_35_method_42_code 21 = .ok (.ireturn, 1) := by decide +kernel
theorem own_d14_10 : decode jdk_35_method_42_code 10 = .ok (.lload_n 0, 1) := by decide +kernel
theorem own_d14_11 : decode jdk_35_method_42_code 11 = .ok (.lload_n 2, 1) := by decide +kernel
theorem own_d14_12 : decode jdk_35_method_42_code 12 = .ok (.lcmp, 1) := by decide +kernel
theorem own_d14_13 : decode jdk_35_method_42_code 13 = .ok (.ifCond .ne 7, 3) := by decide +kernel
theorem own_d14_16 : decode jdk_35_method_42_code 16 = .ok (.iconst 0, 1) := by decide +kernel
theorem own_d14_17 : decode jdk_35_method_42_code 17 = .ok (.goto 4, 3) := by decide +kernel
theorem own_d14_20 : decode jdk_35_method_42_code 20 = .ok (.iconst 1, 1) := by decide +kernel
set_option maxRecDepth 65536 in
set_option maxHeartbeats 40000000 in
theorem rm_lcmp (l : Launch) (Z : State) (a0 : Array Value) (hw : ∀ d ∈ tables_1, d.before a0 Z = true) (ws : List Jvm.Cond) (a : Int64) (b : Int64) (r : Int32) (h0 : Heap) (n0 : Nat) (Z0 : n0 ≤ h0.size) (hr : (if a < b then (-1 : Int32) else if a = b then 0 else 1) = r) :
    MetFree l (⟨"java/lang/Long", "compare", "(JJ)I"⟩ : MethodName) (head1 (Jvm.Cond.code (⟨"java/lang/Long", "compare", "(JJ)I"⟩ : MethodName) jdk_35_method_42_code 4 (some .int) :: ws) ({ frames := 0, cells := 0, slots := 0, locals := 0 } : Room)) (fun aa U => aa = #[(.long a), (.long b)] ∧ Z.Warmed39 U.vm ∧ U.heap = h0) (fun _ _ _ _ _ => True) (fun _ U ou U' => ∃ v L, ou = .returned v ∧ Q_rm_lcmp Z a b r h0 n0 v U'.heap L ∧ FrameEnd U ou U' L ({ frames := 0, cells := 0, slots := 0, locals := 0 } : Room).cells ({ frames := 0, cells := 0, slots := 0, locals := 0 } : Room).slots) := by
  refine MetFree.of_bodySF (plainFor_of_name own_pn3) hisR ?_
  intro p e s m args below meth c s₁ Bd hml0 hP hK
  obtain ⟨rfl, hZ, hh⟩ := hP
  have hx := Bd.exec
  have hby := Bd.bytes
  have hml : c.maxLocals = 4 := hml0
  have hown : s.vm.findClass "java/lang/Long" = some m.cls := findClass_of_methodNamed Bd.named
  have hnm := (name_of_methodNamed Bd.named Bd.method).1
  have X0 : Stand p l e ({ frames := 0, cells := 0, slots := 0, locals := 0 } : Room) s m #[(.long a), (.long b)] below meth c s₁ [] 0 0 := Stand.of_body Bd
  have e0 : s₁.heap = h0 := by rw [← hh, Bd.state]; rfl
  have N0 := Fr.nil n0
  show own_Go p e below (fun o u L => FrameEnd s o u L ({ frames := 0, cells := 0, slots := 0, locals := 0 } : Room).cells ({ frames := 0, cells := 0, slots := 0, locals := 0 } : Room).slots) (Q_rm_lcmp Z a b r h0 n0) (s₁.setTop (entryFrame m #[(.long a), (.long b)] 4))
  rw [own_ef_rm_lcmp m a b]
  show own_Go _ _ _ _ _ (State.setTop _ (mkF _ 0 #[.val (.long a), .second, .val (.long b), .second] []))
  refine own_lloadN X0 hx 1 rfl (hb hby own_d14_0) rfl ?_
  refine own_lloadN X0 hx 2 rfl (hb hby own_d14_1) rfl ?_
  refine own_lcmp X0 hx 3 rfl (hb hby own_d14_2) _ rfl ?_
  by_cases hc304 : a < b
  ·
    refine own_ifNo X0 hx 6 rfl (hb hby own_d14_3) ((if0 _ _).trans (tlt ((lw_lt _ _).mpr hc304)).2.1) ?_
    refine own_iconst X0 hx 7 rfl (hb hby own_d14_6) (-1 : Int32) rfl ?_
    refine own_goto X0 hx 21 (hb hby own_d14_7) (by decide) rfl ?_
    refine own_ret X0 (some (.int (-1 : Int32))) (fun h => by rw [Bd.returns] at h; cases h) Bd.notSynchronized (by decide) (by decide) ?_ (fun fs hr => own_retI X0 hx Bd.returns (hb hby own_d14_21) hr)
    show Q_rm_lcmp Z a b r h0 n0 _ s₁.heap _
    rw [e0]
    exact ⟨by rw [← hr, if_pos hc304], N0, rfl⟩
  ·
    refine own_ifYes X0 hx 10 (hb hby own_d14_3) ((if0 _ _).trans (flt (fun z => hc304 ((lw_lt _ _).mp z))).2.1) (by decide) rfl ?_
    refine own_lloadN X0 hx 11 rfl (hb hby own_d14_10) rfl ?_
    refine own_lloadN X0 hx 12 rfl (hb hby own_d14_11) rfl ?_
    refine own_lcmp X0 hx 13 rfl (hb hby own_d14_12) _ rfl ?_
    by_cases hc305 : a = b
    ·
      refine own_ifNo X0 hx 16 rfl (hb hby own_d14_13) ((if0 _ _).trans (teq ((lw_eq _ _).mpr hc305)).2) ?_
      refine own_iconst X0 hx 17 rfl (hb hby own_d14_16) (0 : Int32) rfl ?_
      refine own_goto X0 hx 21 (hb hby own_d14_17) (by decide) rfl ?_
      refine own_ret X0 (some (.int (0 : Int32))) (fun h => by rw [Bd.returns] at h; cases h) Bd.notSynchronized (by decide) (by decide) ?_ (fun fs hr => own_retI X0 hx Bd.returns (hb hby own_d14_21) hr)
      show Q_rm_lcmp Z a b r h0 n0 _ s₁.heap _
      rw [e0]
      exact ⟨by rw [← hr, if_neg hc304, if_pos hc305], N0, rfl⟩
    ·
      refine own_ifYes X0 hx 20 (hb hby own_d14_13) ((if0 _ _).trans (feq (fun z => hc305 ((lw_eq _ _).mp z))).2) (by decide) rfl ?_
      refine own_iconst X0 hx 21 rfl (hb hby own_d14_20) (1 : Int32) rfl ?_
      refine own_ret X0 (some (.int (1 : Int32))) (fun h => by rw [Bd.returns] at h; cases h) Bd.notSynchronized (by decide) (by decide) ?_ (fun fs hr => own_retI X0 hx Bd.returns (hb hby own_d14_21) hr)
      show Q_rm_lcmp Z a b r h0 n0 _ s₁.heap _
      rw [e0]
      exact ⟨by rw [← hr, if_neg hc304, if_neg hc305], N0, rfl⟩
theorem own_ef_rm_cmpu (m : MethodId) (a : Int64) (b : Int64) : entryFrame m #[(.long a), (.long b)] 4 = mkF m 0 #[.val (.long a), .second, .val (.long b), .second] [] := by first | (simp [entryFrame, mkF, argsToLocals, Value.category]; done) | rfl
def Q_rm_cmpu (Z : State) (a : Int64) (b : Int64) (h0 : Heap) (n0 : Nat) (v : Option Value) (h : Heap) (L : List Loc) : Prop := v = some (.int (own_cu a b)) ∧ Fr n0 L ∧ h = h0
theorem own_d13_0 : decode jdk_35_method_43_code 0 = .ok (.lload_n 0, 1) := by decide +kernel
theorem own_d13_1 : decode jdk_35_method_43_code 1 = .ok (.ldc2_w 168, 3) := by decide +kernel
theorem own_d13_4 : decode jdk_35_method_43_code 4 = .ok (.ladd, 1) := by decide +kernel
theorem own_d13_5 : decode jdk_35_method_43_code 5 = .ok (.lload_n 2, 1) := by decide +kernel
theorem own_d13_6 : decode jdk_35_method_43_code 6 = .ok (.ldc2_w 168, 3) := by decide +kernel
theorem own_d13_9 : decode jdk_35_method_43_code 9 = .ok (.ladd, 1) := by decide +kernel
theorem own_d13_10 : decode jdk_35_method_43_code 10 = .ok (.invokestatic 302, 3) := by decide +kernel
theorem own_pd2 : parseMethodDescriptor "(JJ)I" = some ⟨[.long, .long], some .int⟩ := by decide +kernel
theorem own_d13_13 : decode jdk_35_method_43_code 13 = .ok (.ireturn, 1) := by decide +kernel
set_option maxRecDepth 65536 in
set_option maxHeartbeats 40000000 in
theorem rm_cmpu (l : Launch) (Z : State) (a0 : Array Value) (hw : ∀ d ∈ tables_1, d.before a0 Z = true) (ws : List Jvm.Cond) (a : Int64) (b : Int64) (h0 : Heap) (n0 : Nat) (Z0 : n0 ≤ h0.size)  :
    MetFree l (⟨"java/lang/Long", "compareUnsigned", "(JJ)I"⟩ : MethodName) (head1 (Jvm.Cond.code (⟨"java/lang/Long", "compareUnsigned", "(JJ)I"⟩ : MethodName) jdk_35_method_43_code 4 (some .int) :: ws) ({ frames := 1, cells := 0, slots := 0, locals := 15 } : Room)) (fun aa U => aa = #[(.long a), (.long b)] ∧ Z.Warmed39 U.vm ∧ U.heap = h0) (fun _ _ _ _ _ => True) (fun _ U ou U' => ∃ v L, ou = .returned v ∧ Q_rm_cmpu Z a b h0 n0 v U'.heap L ∧ FrameEnd U ou U' L ({ frames := 1, cells := 0, slots := 0, locals := 15 } : Room).cells ({ frames := 1, cells := 0, slots := 0, locals := 15 } : Room).slots) := by
  refine MetFree.of_bodySF (plainFor_of_name own_pn3) hisR ?_
  intro p e s m args below meth c s₁ Bd hml0 hP hK
  obtain ⟨rfl, hZ, hh⟩ := hP
  have hx := Bd.exec
  have hby := Bd.bytes
  have hml : c.maxLocals = 4 := hml0
  have hown : s.vm.findClass "java/lang/Long" = some m.cls := findClass_of_methodNamed Bd.named
  have hnm := (name_of_methodNamed Bd.named Bd.method).1
  have X0 : Stand p l e ({ frames := 1, cells := 0, slots := 0, locals := 15 } : Room) s m #[(.long a), (.long b)] below meth c s₁ [] 0 0 := Stand.of_body Bd
  have e0 : s₁.heap = h0 := by rw [← hh, Bd.state]; rfl
  have N0 := Fr.nil n0
  show own_Go p e below (fun o u L => FrameEnd s o u L ({ frames := 1, cells := 0, slots := 0, locals := 15 } : Room).cells ({ frames := 1, cells := 0, slots := 0, locals := 15 } : Room).slots) (Q_rm_cmpu Z a b h0 n0) (s₁.setTop (entryFrame m #[(.long a), (.long b)] 4))
  rw [own_ef_rm_cmpu m a b]
  show own_Go _ _ _ _ _ (State.setTop _ (mkF _ 0 #[.val (.long a), .second, .val (.long b), .second] []))
  refine own_lloadN X0 hx 1 rfl (hb hby own_d13_0) rfl ?_
  refine own_ldcJ X0 hx hZ hown (own_hw hw 100 rfl) 4 rfl (hb hby own_d13_1) ?_
  refine own_ladd X0 hx 5 rfl (hb hby own_d13_4) _ rfl ?_
  refine own_lloadN X0 hx 6 rfl (hb hby own_d13_5) rfl ?_
  refine own_ldcJ X0 hx hZ hown (own_hw hw 100 rfl) 9 rfl (hb hby own_d13_6) ?_
  refine own_ladd X0 hx 10 rfl (hb hby own_d13_9) _ rfl ?_
  refine own_callS X0 hx hZ (y := (⟨"java/lang/Long", "compare", "(JJ)I"⟩ : MethodName)) hown (own_hw hw 101 rfl) (own_hw hw 102 rfl) (by decide) (rm_lcmp l Z a0 hw [] (a + (-9223372036854775808 : Int64)) (b + (-9223372036854775808 : Int64)) (own_cu a b) h0 n0 Z0 rfl) (own_hw hw 103 rfl) (own_hw hw 98 rfl) (by decide) e0 (by rw [hml]; rfl) [(.long (a + (-9223372036854775808 : Int64))), (.long (b + (-9223372036854775808 : Int64)))] 0 (by decide) (Nat.le_of_eq rfl) (by decide) (by decide) (lenOf own_pd2 rfl) rfl rfl 13 rfl (hb hby own_d13_10) fun v306 T306 Lc306 X306 hQ306 => ?_
  obtain ⟨rfl, Nq306, e306⟩ := hQ306
  have N307 := Fr.app N0 Nq306
  show own_Go _ _ _ _ _ (State.setTop _ (mkF _ 13 _ [(.int (own_cu a b))]))
  refine own_ret X306 (some (.int (own_cu a b))) (fun h => by rw [Bd.returns] at h; cases h) Bd.notSynchronized (by decide) (by decide) ?_ (fun fs hr => own_retI X306 hx Bd.returns (hb hby own_d13_13) hr)
  show Q_rm_cmpu Z a b h0 n0 _ T306.heap _
  rw [e306]
  exact ⟨rfl, N307, rfl⟩
theorem own_ef_rm_pay (m : MethodId) (o : Addr) (w : Int64) : entryFrame m #[(.ref o), (.long w)] 5 = mkF m 0 #[.val (.ref o), .val (.long w), .second, .unset, .unset] [] := by first | (simp [entryFrame, mkF, argsToLocals, Value.category]; done) | rfl
def Q_rm_pay (Z : State) (o : Addr) (w : Int64) (t : Int64) (a : Int64) (f : Int32) (h0 : Heap) (n0 : Nat) (v : Option Value) (h : Heap) (L : List Loc) : Prop := v = none ∧ Fr n0 L ∧ Keep h0 h [o] ∧ Exa Z h o "com/example/portunus/portunus/Periods$Debt" ∧ Fld Z h o "com/example/portunus/portunus/Periods$Debt" "time" "J" (.long w) ∧ Fld Z h o "com/example/portunus/portunus/Periods$Debt" "nanos" "J" (.long (a - (w - t))) ∧ Fld Z h o "com/example/portunus/portunus/Periods$Debt" "fraction" "I" (.int f)
theorem own_d12_0 : decode prog_16_method_2_code 0 = .ok (.lload_n 1, 1) := by decide +kernel
theorem own_d12_1 : decode prog_16_method_2_code 1 = .ok (.aload_n 0, 1) := by decide +kernel
theorem own_d12_2 : decode prog_16_method_2_code 2 = .ok (.getfield 7, 3) := by decide +kernel
theorem own_d12_5 : decode prog_16_method_2_code 5 = .ok (.lsub, 1) := by decide +kernel
theorem own_d12_6 : decode prog_16_method_2_code 6 = .ok (.lstore_n 3, 1) := by decide +kernel
theorem own_d12_7 : decode prog_16_method_2_code 7 = .ok (.aload_n 0, 1) := by decide +kernel
theorem own_d12_8 : decode prog_16_method_2_code 8 = .ok (.lload_n 1, 1) := by decide +kernel
theorem own_d12_9 : decode prog_16_method_2_code 9 = .ok (.putfield 7, 3) := by decide +kernel
theorem own_d12_12 : decode prog_16_method_2_code 12 = .ok (.lload_n 3, 1) := by decide +kernel
theorem own_d12_13 : decode prog_16_method_2_code 13 = .ok (.aload_n 0, 1) := by decide +kernel
theorem own_d12_14 : decode prog_16_method_2_code 14 = .ok (.getfield 13, 3) := by decide +kernel
theorem own_d12_17 : decode prog_16_method_2_code 17 = .ok (.invokestatic 16, 3) := by decide +kernel
theorem own_d12_20 : decode prog_16_method_2_code 20 = .ok (.ifCond .le 16, 3) := by decide +kernel
theorem own_d12_36 : decode prog_16_method_2_code 36 = .ok (.aload_n 0, 1) := by decide +kernel
theorem own_d12_37 : decode prog_16_method_2_code 37 = .ok (.dup, 1) := by decide +kernel
theorem own_d12_38 : decode prog_16_method_2_code 38 = .ok (.getfield 13, 3) := by decide +kernel
theorem own_d12_41 : decode prog_16_method_2_code 41 = .ok (.lload_n 3, 1) := by decide +kernel
theorem own_d12_42 : decode prog_16_method_2_code 42 = .ok (.lsub, 1) := by decide +kernel
theorem own_d12_43 : decode prog_16_method_2_code 43 = .ok (.putfield 13, 3) := by decide +kernel
theorem own_d12_46 : decode prog_16_method_2_code 46 = .ok (.return_, 1) := by decide +kernel
set_option maxRecDepth 65536 in
set_option maxHeartbeats 40000000 in
theorem rm_pay (l : Launch) (Z : State) (a0 : Array Value) (hw : ∀ d ∈ tables_1, d.before a0 Z = true) (ws : List Jvm.Cond) (o : Addr) (w : Int64) (t : Int64) (a : Int64) (f : Int32) (h0 : Heap) (n0 : Nat) (Z0 : n0 ≤ h0.size) (D0 : Exa Z h0 o "com/example/portunus/portunus/Periods$Debt") (D1 : Fld Z h0 o "com/example/portunus/portunus/Periods$Debt" "time" "J" (.long t)) (D2 : Fld Z h0 o "com/example/portunus/portunus/Periods$Debt" "nanos" "J" (.long a)) (D3 : Fld Z h0 o "com/example/portunus/portunus/Periods$Debt" "fraction" "I" (.int f)) (g_o : n0 ≤ o) (hc : ¬ 0 < own_cu (w - t) a) :
    MetFree l (⟨"com/example/portunus/portunus/Periods$Debt", "payOff", "(J)V"⟩ : MethodName) (head1 (Jvm.Cond.code (⟨"com/example/portunus/portunus/Periods$Debt", "payOff", "(J)V"⟩ : MethodName) prog_16_method_2_code 5 none :: ws) ({ frames := 2, cells := 0, slots := 0, locals := 30 } : Room)) (fun aa U => aa = #[(.ref o), (.long w)] ∧ Z.Warmed39 U.vm ∧ U.heap = h0) (fun _ _ _ _ _ => True) (fun _ U ou U' => ∃ v L, ou = .returned v ∧ Q_rm_pay Z o w t a f h0 n0 v U'.heap L ∧ FrameEnd U ou U' L ({ frames := 2, cells := 0, slots := 0, locals := 30 } : Room).cells ({ frames := 2, cells := 0, slots := 0, locals := 30 } : Room).slots) := by
  refine MetFree.of_bodySF (plainFor_of_name own_pn2) hisR ?_
  intro p e s m args below meth c s₁ Bd hml0 hP hK
  obtain ⟨rfl, hZ, hh⟩ := hP
  have hx := Bd.exec
  have hby := Bd.bytes
  have hml : c.maxLocals = 5 := hml0
  have hown : s.vm.findClass "com/example/portunus/portunus/Periods$Debt" = some m.cls := findClass_of_methodNamed Bd.named
  have hnm := (name_of_methodNamed Bd.named Bd.method).1
  have X0 : Stand p l e ({ frames := 2, cells := 0, slots := 0, locals := 30 } : Room) s m #[(.ref o), (.long w)] below meth c s₁ [] 0 0 := Stand.of_body Bd
  have e0 : s₁.heap = h0 := by rw [← hh, Bd.state]; rfl
  have N0 := Fr.nil n0
  have K0 := Keep.refl h0 [o]
  show own_Go p e below (fun o u L => FrameEnd s o u L ({ frames := 2, cells := 0, slots := 0, locals := 30 } : Room).cells ({ frames := 2, cells := 0, slots := 0, locals := 30 } : Room).slots) (Q_rm_pay Z o w t a f h0 n0) (s₁.setTop (entryFrame m #[(.ref o), (.long w)] 5))
  rw [own_ef_rm_pay m o w]
  show own_Go _ _ _ _ _ (State.setTop _ (mkF _ 0 #[.val (.ref o), .val (.long w), .second, .unset, .unset] []))
  refine own_lloadN X0 hx 1 rfl (hb hby own_d12_0) rfl ?_
  refine own_aloadN X0 hx 2 rfl (hb hby own_d12_1) rfl rfl ?_
  refine own_getF X0 hx hZ (host := "") hown (Or.inl (own_hw hw 69 rfl)) Via.refl e0 D1 5 rfl (hb hby own_d12_2) fun T308 X308 e308 => ?_
  refine own_lsub X308 hx 6 rfl (hb hby own_d12_5) _ rfl ?_
  refine own_lstoreN X308 hx 7 rfl (hb hby own_d12_6) #[.val (.ref o), .val (.long w), .second, .val (.long (w - t)), .second] rfl ?_
  refine own_aloadN X308 hx 8 rfl (hb hby own_d12_7) rfl rfl ?_
  refine own_lloadN X308 hx 9 rfl (hb hby own_d12_8) rfl ?_
  refine own_putF X308 hx hZ (host := "") hown (Or.inl (own_hw hw 69 rfl)) Via.refl e308 D1 D0 (Or.inl (own_hw hw 70 rfl)) (own_hw hw 63 rfl) (ty := .long) (by decide) rfl rfl 12 rfl (hb hby own_d12_9) fun T309 h309 X309 e309 W309 => ?_
  have f310 := D0.wr W309
  have f311 := D2.other W309 (Or.inr (slot_ne (Or.inl (own_hw hw 79 rfl)) (Or.inl (own_hw hw 70 rfl)) (by decide) (t := .long) (t' := .long) (by decide) (by decide)))
  have f312 := D3.other W309 (Or.inr (slot_ne (Or.inl (own_hw hw 77 rfl)) (Or.inl (own_hw hw 70 rfl)) (by decide) (t := .int) (t' := .long) (by decide) (by decide)))
  have z313 := Nat.le_trans Z0 (Keep.of_wr W309).1
  have K314 := K0.wr W309 (Or.inl (List.mem_of_getElem? (i := 0) rfl))
  have f315 := D1.same W309
  have N316 := Fr.snoc X309 N0 g_o
  refine own_lloadN X309 hx 13 rfl (hb hby own_d12_12) rfl ?_
  refine own_aloadN X309 hx 14 rfl (hb hby own_d12_13) rfl rfl ?_
  refine own_getF X309 hx hZ (host := "") hown (Or.inl (own_hw hw 86 rfl)) Via.refl e309 f311 17 rfl (hb hby own_d12_14) fun T317 X317 e317 => ?_
  refine own_callS X317 hx hZ (y := (⟨"java/lang/Long", "compareUnsigned", "(JJ)I"⟩ : MethodName)) hown (own_hw hw 96 rfl) (own_hw hw 97 rfl) (by decide) (rm_cmpu l Z a0 hw [] (w - t) a h309 n0 z313 ) (own_hw hw 99 rfl) (own_hw hw 98 rfl) (by decide) e317 (by rw [hml]; rfl) [(.long (w - t)), (.long a)] 0 (by decide) (Nat.le_of_eq rfl) (by decide) (by decide) (lenOf own_pd2 rfl) rfl rfl 20 rfl (hb hby own_d12_17) fun v318 T318 Lc318 X318 hQ318 => ?_
  obtain ⟨rfl, Nq318, e318⟩ := hQ318
  have N319 := Fr.app N316 Nq318
  show own_Go _ _ _ _ _ (State.setTop _ (mkF _ 20 _ [(.int (own_cu (w - t) a))]))
  refine own_ifYes X318 hx 36 (hb hby own_d12_20) ((if0 _ _).trans (flt hc).2.2.2) (by decide) rfl ?_
  refine own_aloadN X318 hx 37 rfl (hb hby own_d12_36) rfl rfl ?_
  refine own_dup X318 hx 38 rfl (hb hby own_d12_37) rfl ?_
  refine own_getF X318 hx hZ (host := "") hown (Or.inl (own_hw hw 86 rfl)) Via.refl e318 f311 41 rfl (hb hby own_d12_38) fun T320 X320 e320 => ?_
  refine own_lloadN X320 hx 42 rfl (hb hby own_d12_41) rfl ?_
  refine own_lsub X320 hx 43 rfl (hb hby own_d12_42) _ rfl ?_
  refine own_putF X320 hx hZ (host := "") hown (Or.inl (own_hw hw 86 rfl)) Via.refl e320 f311 f310 (Or.inl (own_hw hw 79 rfl)) (own_hw hw 63 rfl) (ty := .long) (by decide) rfl rfl 46 rfl (hb hby own_d12_43) fun T321 h321 X321 e321 W321 => ?_
  have f322 := f310.wr W321
  have f323 := f312.other W321 (Or.inr (slot_ne (Or.inl (own_hw hw 77 rfl)) (Or.inl (own_hw hw 79 rfl)) (by decide) (t := .int) (t' := .long) (by decide) (by decide)))
  have f324 := f315.other W321 (Or.inr (slot_ne (Or.inl (own_hw hw 70 rfl)) (Or.inl (own_hw hw 79 rfl)) (by decide) (t := .long) (t' := .long) (by decide) (by decide)))
  have z325 := Nat.le_trans z313 (Keep.of_wr W321).1
  have K326 := K314.wr W321 (Or.inl (List.mem_of_getElem? (i := 0) rfl))
  have f327 := f311.same W321
  have N328 := Fr.snoc X321 N319 g_o
  refine own_ret X321 none (fun _ => rfl) Bd.notSynchronized (by decide) (by decide) ?_ (fun fs hr => X321.returnOut hx Bd.returns (hb hby own_d12_46) hr)
  show Q_rm_pay Z o w t a f h0 n0 _ T321.heap _
  rw [e321]
  exact ⟨rfl, N328, K326, f322, f324, f327, f323⟩
theorem own_ef_rm_paygone (m : MethodId) (o : Addr) (w : Int64) : entryFrame m #[(.ref o), (.long w)] 5 = mkF m 0 #[.val (.ref o), .val (.long w), .second, .unset, .unset] [] := by first | (simp [entryFrame, mkF, argsToLocals, Value.category]; done) | rfl
def Q_rm_paygone (Z : State) (o : Addr) (w : Int64) (t : Int64) (a : Int64) (f : Int32) (h0 : Heap) (n0 : Nat) (v : Option Value) (h : Heap) (L : List Loc) : Prop := v = none ∧ Fr n0 L ∧ Keep h0 h [o] ∧ Exa Z h o "com/example/portunus/portunus/Periods$Debt" ∧ Fld Z h o "com/example/portunus/portunus/Periods$Debt" "time" "J" (.long w) ∧ Fld Z h o "com/example/portunus/portunus/Periods$Debt" "nanos" "J" (.long (0 : Int64)) ∧ Fld Z h o "com/example/portunus/portunus/Periods$Debt" "fraction" "I" (.int (0 : Int32))
theorem own_d12_23 : decode prog_16_method_2_code 23 = .ok (.aload_n 0, 1) := by decide +kernel
theorem own_d12_24 : decode prog_16_method_2_code 24 = .ok (.lconst 0, 1) := by decide +kernel
theorem own_d12_25 : decode prog_16_method_2_code 25 = .ok (.putfield 13, 3) := by decide +kernel
theorem own_d12_28 : decode prog_16_method_2_code 28 = .ok (.aload_n 0, 1) := by decide +kernel
theorem own_d12_29 : decode prog_16_method_2_code 29 = .ok (.iconst 0, 1) := by decide +kernel
theorem own_d12_30 : decode prog_16_method_2_code 30 = .ok (.putfield 22, 3) := by decide +kernel
theorem own_d12_33 : decode prog_16_method_2_code 33 = .ok (.goto 13, 3) := by decide +kernel
set_option maxRecDepth 65536 in
set_option maxHeartbeats 40000000 in
theorem rm_paygone (l : Launch) (Z : State) (a0 : Array Value) (hw : ∀ d ∈ tables_1, d.before a0 Z = true) (ws : List Jvm.Cond) (o : Addr) (w : Int64) (t : Int64) (a : Int64) (f : Int32) (h0 : Heap) (n0 : Nat) (Z0 : n0 ≤ h0.size) (D0 : Exa Z h0 o "com/example/portunus/portunus/Periods$Debt") (D1 : Fld Z h0 o "com/example/portunus/portunus/Periods$Debt" "time" "J" (.long t)) (D2 : Fld Z h0 o "com/example/portunus/portunus/Periods$Debt" "nanos" "J" (.long a)) (D3 : Fld Z h0 o "com/example/portunus/portunus/Periods$Debt" "fraction" "I" (.int f)) (g_o : n0 ≤ o) (hc : 0 < own_cu (w - t) a) :
    MetFree l (⟨"com/example/portunus/portunus/Periods$Debt", "payOff", "(J)V"⟩ : MethodName) (head1 (Jvm.Cond.code (⟨"com/example/portunus/portunus/Periods$Debt", "payOff", "(J)V"⟩ : MethodName) prog_16_method_2_code 5 none :: ws) ({ frames := 2, cells := 0, slots := 0, locals := 30 } : Room)) (fun aa U => aa = #[(.ref o), (.long w)] ∧ Z.Warmed39 U.vm ∧ U.heap = h0) (fun _ _ _ _ _ => True) (fun _ U ou U' => ∃ v L, ou = .returned v ∧ Q_rm_paygone Z o w t a f h0 n0 v U'.heap L ∧ FrameEnd U ou U' L ({ frames := 2, cells := 0, slots := 0, locals := 30 } : Room).cells ({ frames := 2, cells := 0, slots := 0, locals := 30 } : Room).slots) := by
  refine MetFree.of_bodySF (plainFor_of_name own_pn2) hisR ?_
  intro p e s m args below meth c s₁ Bd hml0 hP hK
  obtain ⟨rfl, hZ, hh⟩ := hP
  have hx := Bd.exec
  have hby := Bd.bytes
  have hml : c.maxLocals = 5 := hml0
  have hown : s.vm.findClass "com/example/portunus/portunus/Periods$Debt" = some m.cls := findClass_of_methodNamed Bd.named
  have hnm := (name_of_methodNamed Bd.named Bd.method).1
  have X0 : Stand p l e ({ frames := 2, cells := 0, slots := 0, locals := 30 } : Room) s m #[(.ref o), (.long w)] below meth c s₁ [] 0 0 := Stand.of_body Bd
  have e0 : s₁.heap = h0 := by rw [← hh, Bd.state]; rfl
  have N0 := Fr.nil n0
  have K0 := Keep.refl h0 [o]
  show own_Go p e below (fun o u L => FrameEnd s o u L ({ frames := 2, cells := 0, slots := 0, locals := 30 } : Room).cells ({ frames := 2, cells := 0, slots := 0, locals := 30 } : Room).slots) (Q_rm_paygone Z o w t a f h0 n0) (s₁.setTop (entryFrame m #[(.ref o), (.long w)] 5))
  rw [own_ef_rm_paygone m o w]
  show own_Go _ _ _ _ _ (State.setTop _ (mkF _ 0 #[.val (.ref o), .val (.long w), .second, .unset, .unset] []))
  refine own_lloadN X0 hx 1 rfl (hb hby own_d12_0) rfl ?_
  refine own_aloadN X0 hx 2 rfl (hb hby own_d12_1) rfl rfl ?_
  refine own_getF X0 hx hZ (host := "") hown (Or.inl (own_hw hw 69 rfl)) Via.refl e0 D1 5 rfl (hb hby own_d12_2) fun T329 X329 e329 => ?_
  refine own_lsub X329 hx 6 rfl (hb hby own_d12_5) _ rfl ?_
  refine own_lstoreN X329 hx 7 rfl (hb hby own_d12_6) #[.val (.ref o), .val (.long w), .second, .val (.long (w - t)), .second] rfl ?_
  refine own_aloadN X329 hx 8 rfl (hb hby own_d12_7) rfl rfl ?_
  refine own_lloadN X329 hx 9 rfl (hb hby own_d12_8) rfl ?_
  refine own_putF X329 hx hZ (host := "") hown (Or.inl (own_hw hw 69 rfl)) Via.refl e329 D1 D0 (Or.inl (own_hw hw 70 rfl)) (own_hw hw 63 rfl) (ty := .long) (by decide) rfl rfl 12 rfl (hb hby own_d12_9) fun T330 h330 X330 e330 W330 => ?_
  have f331 := D0.wr W330
  have f332 := D2.other W330 (Or.inr (slot_ne (Or.inl (own_hw hw 79 rfl)) (Or.inl (own_hw hw 70 rfl)) (by decide) (t := .long) (t' := .long) (by decide) (by decide)))
  have f333 := D3.other W330 (Or.inr (slot_ne (Or.inl (own_hw hw 77 rfl)) (Or.inl (own_hw hw 70 rfl)) (by decide) (t := .int) (t' := .long) (by decide) (by decide)))
  have z334 := Nat.le_trans Z0 (Keep.of_wr W330).1
  have K335 := K0.wr W330 (Or.inl (List.mem_of_getElem? (i := 0) rfl))
  have f336 := D1.same W330
  have N337 := Fr.snoc X330 N0 g_o
  refine own_lloadN X330 hx 13 rfl (hb hby own_d12_12) rfl ?_
  refine own_aloadN X330 hx 14 rfl (hb hby own_d12_13) rfl rfl ?_
  refine own_getF X330 hx hZ (host := "") hown (Or.inl (own_hw hw 86 rfl)) Via.refl e330 f332 17 rfl (hb hby own_d12_14) fun T338 X338 e338 => ?_
  refine own_callS X338 hx hZ (y := (⟨"java/lang/Long", "compareUnsigned", "(JJ)I"⟩ : MethodName)) hown (own_hw hw 96 rfl) (own_hw hw 97 rfl) (by decide) (rm_cmpu l Z a0 hw [] (w - t) a h330 n0 z334 ) (own_hw hw 99 rfl) (own_hw hw 98 rfl) (by decide) e338 (by rw [hml]; rfl) [(.long (w - t)), (.long a)] 0 (by decide) (Nat.le_of_eq rfl) (by decide) (by decide) (lenOf own_pd2 rfl) rfl rfl 20 rfl (hb hby own_d12_17) fun v339 T339 Lc339 X339 hQ339 => ?_
  obtain ⟨rfl, Nq339, e339⟩ := hQ339
  have N340 := Fr.app N337 Nq339
  show own_Go _ _ _ _ _ (State.setTop _ (mkF _ 20 _ [(.int (own_cu (w - t) a))]))
  refine own_ifNo X339 hx 23 rfl (hb hby own_d12_20) ((if0 _ _).trans (tlt hc).2.2.2) ?_
  refine own_aloadN X339 hx 24 rfl (hb hby own_d12_23) rfl rfl ?_
  refine own_lconst X339 hx 25 rfl (hb hby own_d12_24) (0 : Int64) rfl ?_
  refine own_putF X339 hx hZ (host := "") hown (Or.inl (own_hw hw 86 rfl)) Via.refl e339 f332 f331 (Or.inl (own_hw hw 79 rfl)) (own_hw hw 63 rfl) (ty := .long) (by decide) rfl rfl 28 rfl (hb hby own_d12_25) fun T341 h341 X341 e341 W341 => ?_
  have f342 := f331.wr W341
  have f343 := f333.other W341 (Or.inr (slot_ne (Or.inl (own_hw hw 77 rfl)) (Or.inl (own_hw hw 79 rfl)) (by decide) (t := .int) (t' := .long) (by decide) (by decide)))
  have f344 := f336.other W341 (Or.inr (slot_ne (Or.inl (own_hw hw 70 rfl)) (Or.inl (own_hw hw 79 rfl)) (by decide) (t := .long) (t' := .long) (by decide) (by decide)))
  have z345 := Nat.le_trans z334 (Keep.of_wr W341).1
  have K346 := K335.wr W341 (Or.inl (List.mem_of_getElem? (i := 0) rfl))
  have f347 := f332.same W341
  have N348 := Fr.snoc X341 N340 g_o
  refine own_aloadN X341 hx 29 rfl (hb hby own_d12_28) rfl rfl ?_
  refine own_iconst X341 hx 30 rfl (hb hby own_d12_29) (0 : Int32) rfl ?_
  refine own_putF X341 hx hZ (host := "") hown (Or.inl (own_hw hw 85 rfl)) Via.refl e341 f343 f342 (Or.inl (own_hw hw 77 rfl)) (own_hw hw 63 rfl) (ty := .int) (by decide) rfl rfl 33 rfl (hb hby own_d12_30) fun T349 h349 X349 e349 W349 => ?_
  have f350 := f342.wr W349
  have f351 := f344.other W349 (Or.inr (slot_ne (Or.inl (own_hw hw 70 rfl)) (Or.inl (own_hw hw 77 rfl)) (by decide) (t := .long) (t' := .int) (by decide) (by decide)))
  have f352 := f347.other W349 (Or.inr (slot_ne (Or.inl (own_hw hw 79 rfl)) (Or.inl (own_hw hw 77 rfl)) (by decide) (t := .long) (t' := .int) (by decide) (by decide)))
  have z353 := Nat.le_trans z345 (Keep.of_wr W349).1
  have K354 := K346.wr W349 (Or.inl (List.mem_of_getElem? (i := 0) rfl))
  have f355 := f343.same W349
  have N356 := Fr.snoc X349 N348 g_o
  refine own_goto X349 hx 46 (hb hby own_d12_33) (by decide) rfl ?_
  refine own_ret X349 none (fun _ => rfl) Bd.notSynchronized (by decide) (by decide) ?_ (fun fs hr => X349.returnOut hx Bd.returns (hb hby own_d12_46) hr)
  show Q_rm_paygone Z o w t a f h0 n0 _ T349.heap _
  rw [e349]
  exact ⟨rfl, N356, K354, f350, f351, f352, f355⟩
theorem own_pn4 : plainName "com/example/portunus/portunus/PeriodsAddPeriodPinLaw" = true := by first | (simp [plainName, overriddenIn]; done) | decide +kernel
theorem own_ef_rm_ceil (m : MethodId) (k : Int64) (q : Int64) (r : Int64) (n : Int64) : entryFrame m #[(.long k), (.long q), (.long r), (.long n)] 10 = mkF m 0 #[.val (.long k), .second, .val (.long q), .second, .val (.long r), .second, .val (.long n), .second, .unset, .unset] [] := by first | (simp [entryFrame, mkF, argsToLocals, Value.category]; done) | rfl
def Q_rm_ceil (Z : State) (k : Int64) (q : Int64) (r : Int64) (n : Int64) (h0 : Heap) (n0 : Nat) (v : Option Value) (h : Heap) (L : List Loc) : Prop := v = some (.long (own_ceil k q r n)) ∧ Fr n0 L ∧ h = h0
theorem own_d11_0 : decode method_3_code 0 = .ok (.lload_n 0, 1) := by decide +kernel
theorem own_d11_1 : decode method_3_code 1 = .ok (.lload 4, 2) := by decide +kernel
theorem own_d11_3 : decode method_3_code 3 = .ok (.lmul, 1) := by decide +kernel
theorem own_d11_4 : decode method_3_code 4 = .ok (.lstore 8, 2) := by decide +kernel
theorem own_d11_6 : decode method_3_code 6 = .ok (.lload_n 0, 1) := by decide +kernel
theorem own_d11_7 : decode method_3_code 7 = .ok (.lload_n 2, 1) := by decide +kernel
theorem own_d11_8 : decode method_3_code 8 = .ok (.lmul, 1) := by decide +kernel
theorem own_d11_9 : decode method_3_code 9 = .ok (.lload 8, 2) := by decide +kernel
theorem own_d11_11 : decode method_3_code 11 = .ok (.lload 6, 2) := by decide +kernel
theorem own_d11_13 : decode method_3_code 13 = .ok (.ldiv, 1) := by decide +kernel
theorem own_d11_14 : decode method_3_code 14 = .ok (.ladd, 1) := by decide +kernel
theorem own_d11_15 : decode method_3_code 15 = .ok (.lload 8, 2) := by decide +kernel
theorem own_d11_17 : decode method_3_code 17 = .ok (.lload 6, 2) := by decide +kernel
theorem own_d11_19 : decode method_3_code 19 = .ok (.lrem, 1) := by decide +kernel
theorem own_d11_20 : decode method_3_code 20 = .ok (.lconst 0, 1) := by decide +kernel
theorem own_d11_21 : decode method_3_code 21 = .ok (.lcmp, 1) := by decide +kernel
theorem own_d11_22 : decode method_3_code 22 = .ok (.ifCond .eq 7, 3) := by decide +kernel
theorem own_d11_29 : decode method_3_code 29 = .ok (.lconst 0, 1) := by decide +kernel
theorem own_d11_30 : decode method_3_code 30 = .ok (.ladd, 1) := by decide +kernel
theorem own_d11_31 : decode method_3_code 31 = .ok (.lreturn, 1) := by decide +kernel
theorem own_d11_25 : decode method_3_code 25 = .ok (.lconst 1, 1) := by decide +kernel
theorem own_d11_26 : decode method_3_code 26 = .ok (.goto 4, 3) := by decide +kernel
set_option maxRecDepth 65536 in
set_option maxHeartbeats 40000000 in
theorem rm_ceil (l : Launch) (Z : State) (a0 : Array Value) (hw : ∀ d ∈ tables_1, d.before a0 Z = true) (ws : List Jvm.Cond) (k : Int64) (q : Int64) (r : Int64) (n : Int64) (h0 : Heap) (n0 : Nat) (Z0 : n0 ≤ h0.size) (hn : ¬ n = 0) :
    MetFree l (⟨"com/example/portunus/portunus/PeriodsAddPeriodPinLaw", "ceilOfPeriods", "(JJJJ)J"⟩ : MethodName) (head1 (Jvm.Cond.code (⟨"com/example/portunus/portunus/PeriodsAddPeriodPinLaw", "ceilOfPeriods", "(JJJJ)J"⟩ : MethodName) method_3_code 10 (some .long) :: ws) ({ frames := 0, cells := 0, slots := 0, locals := 0 } : Room)) (fun aa U => aa = #[(.long k), (.long q), (.long r), (.long n)] ∧ Z.Warmed39 U.vm ∧ U.heap = h0) (fun _ _ _ _ _ => True) (fun _ U ou U' => ∃ v L, ou = .returned v ∧ Q_rm_ceil Z k q r n h0 n0 v U'.heap L ∧ FrameEnd U ou U' L ({ frames := 0, cells := 0, slots := 0, locals := 0 } : Room).cells ({ frames := 0, cells := 0, slots := 0, locals := 0 } : Room).slots) := by
  refine MetFree.of_bodySF (plainFor_of_name own_pn4) hisR ?_
  intro p e s m args below meth c s₁ Bd hml0 hP hK
  obtain ⟨rfl, hZ, hh⟩ := hP
  have hx := Bd.exec
  have hby := Bd.bytes
  have hml : c.maxLocals = 10 := hml0
  have hown : s.vm.findClass "com/example/portunus/portunus/PeriodsAddPeriodPinLaw" = some m.cls := findClass_of_methodNamed Bd.named
  have hnm := (name_of_methodNamed Bd.named Bd.method).1
  have X0 : Stand p l e ({ frames := 0, cells := 0, slots := 0, locals := 0 } : Room) s m #[(.long k), (.long q), (.long r), (.long n)] below meth c s₁ [] 0 0 := Stand.of_body Bd
  have e0 : s₁.heap = h0 := by rw [← hh, Bd.state]; rfl
  have N0 := Fr.nil n0
  show own_Go p e below (fun o u L => FrameEnd s o u L ({ frames := 0, cells := 0, slots := 0, locals := 0 } : Room).cells ({ frames := 0, cells := 0, slots := 0, locals := 0 } : Room).slots) (Q_rm_ceil Z k q r n h0 n0) (s₁.setTop (entryFrame m #[(.long k), (.long q), (.long r), (.long n)] 10))
  rw [own_ef_rm_ceil m k q r n]
  show own_Go _ _ _ _ _ (State.setTop _ (mkF _ 0 #[.val (.long k), .second, .val (.long q), .second, .val (.long r), .second, .val (.long n), .second, .unset, .unset] []))
  refine own_lloadN X0 hx 1 rfl (hb hby own_d11_0) rfl ?_
  refine own_lload X0 hx 3 rfl (hb hby own_d11_1) rfl ?_
  refine own_lmul X0 hx 4 rfl (hb hby own_d11_3) _ rfl ?_
  refine own_lstore X0 hx 6 rfl (hb hby own_d11_4) #[.val (.long k), .second, .val (.long q), .second, .val (.long r), .second, .val (.long n), .second, .val (.long (k * r)), .second] rfl ?_
  refine own_lloadN X0 hx 7 rfl (hb hby own_d11_6) rfl ?_
  refine own_lloadN X0 hx 8 rfl (hb hby own_d11_7) rfl ?_
  refine own_lmul X0 hx 9 rfl (hb hby own_d11_8) _ rfl ?_
  refine own_lload X0 hx 11 rfl (hb hby own_d11_9) rfl ?_
  refine own_lload X0 hx 13 rfl (hb hby own_d11_11) rfl ?_
  refine own_ldiv X0 hx 14 rfl (hb hby own_d11_13) hn _ rfl ?_
  refine own_ladd X0 hx 15 rfl (hb hby own_d11_14) _ rfl ?_
  refine own_lload X0 hx 17 rfl (hb hby own_d11_15) rfl ?_
  refine own_lload X0 hx 19 rfl (hb hby own_d11_17) rfl ?_
  refine own_lrem X0 hx 20 rfl (hb hby own_d11_19) hn _ rfl ?_
  refine own_lconst X0 hx 21 rfl (hb hby own_d11_20) (0 : Int64) rfl ?_
  refine own_lcmp X0 hx 22 rfl (hb hby own_d11_21) _ rfl ?_
  by_cases hc357 : ((k * r) % n) = (0 : Int64)
  ·
    refine own_ifYes X0 hx 29 (hb hby own_d11_22) ((if0 _ _).trans (teq ((lw_eq _ _).mpr hc357)).1) (by decide) rfl ?_
    refine own_lconst X0 hx 30 rfl (hb hby own_d11_29) (0 : Int64) rfl ?_
    refine own_ladd X0 hx 31 rfl (hb hby own_d11_30) _ rfl ?_
    refine own_ret X0 (some (.long (((k * q) + ((k * r) / n)) + (0 : Int64)))) (fun h => by rw [Bd.returns] at h; cases h) Bd.notSynchronized (by decide) (by decide) ?_ (fun fs hr => own_retJ X0 hx Bd.returns (hb hby own_d11_31) hr)
    show Q_rm_ceil Z k q r n h0 n0 _ s₁.heap _
    rw [e0]
    exact ⟨by unfold own_ceil; rw [if_pos hc357], N0, rfl⟩
  ·
    refine own_ifNo X0 hx 25 rfl (hb hby own_d11_22) ((if0 _ _).trans (feq (fun z => hc357 ((lw_eq _ _).mp z))).1) ?_
    refine own_lconst X0 hx 26 rfl (hb hby own_d11_25) (1 : Int64) rfl ?_
    refine own_goto X0 hx 30 (hb hby own_d11_26) (by decide) rfl ?_
    refine own_ladd X0 hx 31 rfl (hb hby own_d11_30) _ rfl ?_
    refine own_ret X0 (some (.long (((k * q) + ((k * r) / n)) + (1 : Int64)))) (fun h => by rw [Bd.returns] at h; cases h) Bd.notSynchronized (by decide) (by decide) ?_ (fun fs hr => own_retJ X0 hx Bd.returns (hb hby own_d11_31) hr)
    show Q_rm_ceil Z k q r n h0 n0 _ s₁.heap _
    rw [e0]
    exact ⟨by unfold own_ceil; rw [if_neg hc357], N0, rfl⟩
theorem own_ef_rm0 (m : MethodId) (i0 : Int32) (j1 : Int64) (j2 : Int64) (j3 : Int64) : entryFrame m #[(.int i0), (.long j1), (.long j2), (.long j3)] maxLocals = mkF m 0 #[.val (.int i0), .val (.long j1), .second, .val (.long j2), .second, .val (.long j3), .second, .unset, .unset, .unset, .unset, .unset, .unset, .unset, .unset, .unset, .unset, .unset, .unset, .unset, .unset, .unset, .unset] [] := by first | (simp [entryFrame, mkF, argsToLocals, Value.category, maxLocals]; done) | rfl
def Q_rm0 (Z : State) (i0 : Int32) (j1 : Int64) (j2 : Int64) (j3 : Int64) (ty : Addr) (h0 : Heap) (n0 : Nat) (v : Option Value) (h : Heap) (L : List Loc) : Prop := v = some (.int 1) ∧ Fr n0 L
theorem own_pd3 : parseMethodDescriptor "(II)I" = some ⟨[.int, .int], some .int⟩ := by decide +kernel
theorem own_pd4 : parseMethodDescriptor "(JJ)J" = some ⟨[.long, .long], some .long⟩ := by decide +kernel
theorem own_pd5 : parseMethodDescriptor "(IJLcom/example/portunus/portunus/RateLimiterType;)V" = some ⟨[.int, .long, (.object "com/example/portunus/portunus/RateLimiterType")], none⟩ := by decide +kernel
theorem own_pd6 : parseMethodDescriptor "(Lcom/example/portunus/portunus/RateLimiterConfig;)V" = some ⟨[(.object "com/example/portunus/portunus/RateLimiterConfig")], none⟩ := by decide +kernel
theorem own_pd7 : parseMethodDescriptor "(J)V" = some ⟨[.long], none⟩ := by decide +kernel
theorem own_pd8 : parseMethodDescriptor "(Lcom/example/portunus/portunus/Periods$Debt;)V" = some ⟨[(.object "com/example/portunus/portunus/Periods$Debt")], none⟩ := by decide +kernel
theorem own_pd9 : parseMethodDescriptor "(JJJJ)J" = some ⟨[.long, .long, .long, .long], some .long⟩ := by decide +kernel
set_option maxRecDepth 65536 in
set_option maxHeartbeats 40000000 in
theorem rm0 (l : Launch) (Z : State) (a0 : Array Value) (hw : ∀ d ∈ tables_1, d.before a0 Z = true) (ws : List Jvm.Cond) (i0 : Int32) (j1 : Int64) (j2 : Int64) (j3 : Int64) (ty : Addr) (h0 : Heap) (n0 : Nat) (Z0 : n0 ≤ h0.size) (S1 : Sta Z h0 "com/example/portunus/portunus/RateLimiterType" "TOKEN_BUCKET" "Lcom/example/portunus/portunus/RateLimiterType;" (.ref ty)) :
    MetFree l x (head1 (Jvm.Cond.code x code maxLocals ret :: ws) room_1) (fun aa U => aa = #[(.int i0), (.long j1), (.long j2), (.long j3)] ∧ Z.Warmed39 U.vm ∧ U.heap = h0) (fun _ _ _ _ _ => True) (fun _ U ou U' => ∃ v L, ou = .returned v ∧ Q_rm0 Z i0 j1 j2 j3 ty h0 n0 v U'.heap L ∧ FrameEnd U ou U' L room_1.cells room_1.slots) := by
  refine MetFree.of_bodySF (plainFor_of_name own_pn4) hisR ?_
  intro p e s m args below meth c s₁ Bd hml0 hP hK
  obtain ⟨rfl, hZ, hh⟩ := hP
  have hx := Bd.exec
  have hby := Bd.bytes
  have hml : c.maxLocals = 23 := hml0
  have hown : s.vm.findClass "com/example/portunus/portunus/PeriodsAddPeriodPinLaw" = some m.cls := findClass_of_methodNamed Bd.named
  have hnm := (name_of_methodNamed Bd.named Bd.method).1
  have X0 : Stand p l e room_1 s m #[(.int i0), (.long j1), (.long j2), (.long j3)] below meth c s₁ [] 0 0 := Stand.of_body Bd
  have e0 : s₁.heap = h0 := by rw [← hh, Bd.state]; rfl
  have N0 := Fr.nil n0
  show own_Go p e below (fun o u L => FrameEnd s o u L room_1.cells room_1.slots) (Q_rm0 Z i0 j1 j2 j3 ty h0 n0) (s₁.setTop (entryFrame m #[(.int i0), (.long j1), (.long j2), (.long j3)] maxLocals))
  rw [own_ef_rm0 m i0 j1 j2 j3]
  show own_Go _ _ _ _ _ (State.setTop _ (mkF _ 0 #[.val (.int i0), .val (.long j1), .second, .val (.long j2), .second, .val (.long j3), .second, .unset, .unset, .unset, .unset, .unset, .unset, .unset, .unset, .unset, .unset, .unset, .unset, .unset, .unset, .unset, .unset] []))
  refine own_iconst X0 hx 1 rfl (hb hby at_0) (1 : Int32) rfl ?_
  refine own_iloadN X0 hx 2 rfl (hb hby at_1) rfl ?_
  refine own_ldcI X0 hx hZ hown (own_hw hw 0 rfl) 4 rfl (hb hby at_2) ?_
  refine own_iand X0 hx 5 rfl (hb hby at_4) _ rfl ?_
  refine own_callS X0 hx hZ (y := (⟨"java/lang/Math", "max", "(II)I"⟩ : MethodName)) hown (own_hw hw 1 rfl) (own_hw hw 2 rfl) (by decide) (rm_maxI l Z a0 hw [] (1 : Int32) (i0 &&& (2147483647 : Int32)) (own_n i0) h0 n0 Z0 rfl) (own_hw hw 4 rfl) (own_hw hw 3 rfl) (by decide) e0 (by rw [hml]; rfl) [(.int (1 : Int32)), (.int (i0 &&& (2147483647 : Int32)))] 0 (by decide) (Nat.le_of_eq rfl) (by decide) (by decide) (lenOf own_pd3 rfl) rfl rfl 8 rfl (hb hby at_5) fun v358 T358 Lc358 X358 hQ358 => ?_
  obtain ⟨rfl, Nq358, e358⟩ := hQ358
  have N359 := Fr.app N0 Nq358
  show own_Go _ _ _ _ _ (State.setTop _ (mkF _ 8 _ [(.int (own_n i0))]))
  refine own_istore X358 hx 10 rfl (hb hby at_8) #[.val (.int i0), .val (.long j1), .second, .val (.long j2), .second, .val (.long j3), .second, .val (.int (own_n i0)), .unset, .unset, .unset, .unset, .unset, .unset, .unset, .unset, .unset, .unset, .unset, .unset, .unset, .unset, .unset] rfl ?_
  refine own_lconst X358 hx 11 rfl (hb hby at_10) (1 : Int64) rfl ?_
  refine own_lloadN X358 hx 12 rfl (hb hby at_11) rfl ?_
  refine own_ldcJ X358 hx hZ hown (own_hw hw 5 rfl) 15 rfl (hb hby at_12) ?_
  refine own_land X358 hx 16 rfl (hb hby at_15) _ rfl ?_
  refine own_ldcJ X358 hx hZ hown (own_hw hw 6 rfl) 19 rfl (hb hby at_16) ?_
  refine own_lrem X358 hx 20 rfl (hb hby at_19) (by decide) _ rfl ?_
  refine own_ladd X358 hx 21 rfl (hb hby at_20) _ rfl ?_
  refine own_lstore X358 hx 23 rfl (hb hby at_21) #[.val (.int i0), .val (.long j1), .second, .val (.long j2), .second, .val (.long j3), .second, .val (.int (own_n i0)), .val (.long ((1 : Int64) + ((j1 &&& (9223372036854775807 : Int64)) % (9223372036854 : Int64)))), .second, .unset, .unset, .unset, .unset, .unset, .unset, .unset, .unset, .unset, .unset, .unset, .unset, .unset] rfl ?_
  show own_Go _ _ _ _ _ (State.setTop _ (mkF _ 23 #[.val (.int i0), .val (.long j1), .second, .val (.long j2), .second, .val (.long j3), .second, .val (.int (own_n i0)), .val (.long (own_ms j1)), .second, .unset, .unset, .unset, .unset, .unset, .unset, .unset, .unset, .unset, .unset, .unset, .unset, .unset] []))
  refine own_lload X358 hx 25 rfl (hb hby at_23) rfl ?_
  refine own_ldcJ X358 hx hZ hown (own_hw hw 7 rfl) 28 rfl (hb hby at_25) ?_
  refine own_lmul X358 hx 29 rfl (hb hby at_28) _ rfl ?_
  refine own_lstore X358 hx 31 rfl (hb hby at_29) #[.val (.int i0), .val (.long j1), .second, .val (.long j2), .second, .val (.long j3), .second, .val (.int (own_n i0)), .val (.long (own_ms j1)), .second, .val (.long ((own_ms j1) * (1000000 : Int64))), .second, .unset, .unset, .unset, .unset, .unset, .unset, .unset, .unset, .unset, .unset, .unset] rfl ?_
  show own_Go _ _ _ _ _ (State.setTop _ (mkF _ 31 #[.val (.int i0), .val (.long j1), .second, .val (.long j2), .second, .val (.long j3), .second, .val (.int (own_n i0)), .val (.long (own_ms j1)), .second, .val (.long (own_w j1)), .second, .unset, .unset, .unset, .unset, .unset, .unset, .unset, .unset, .unset, .unset, .unset] []))
  refine own_lload X358 hx 33 rfl (hb hby at_31) rfl ?_
  refine own_iload X358 hx 35 rfl (hb hby at_33) rfl ?_
  refine own_i2l X358 hx 36 rfl (hb hby at_35) _ rfl ?_
  refine own_ldiv X358 hx 37 rfl (hb hby at_36) (own_n64_nz i0) _ rfl ?_
  refine own_lstore X358 hx 39 rfl (hb hby at_37) #[.val (.int i0), .val (.long j1), .second, .val (.long j2), .second, .val (.long j3), .second, .val (.int (own_n i0)), .val (.long (own_ms j1)), .second, .val (.long (own_w j1)), .second, .val (.long ((own_w j1) / ((own_n i0).toInt64))), .second, .unset, .unset, .unset, .unset, .unset, .unset, .unset, .unset, .unset] rfl ?_
  show own_Go _ _ _ _ _ (State.setTop _ (mkF _ 39 #[.val (.int i0), .val (.long j1), .second, .val (.long j2), .second, .val (.long j3), .second, .val (.int (own_n i0)), .val (.long (own_ms j1)), .second, .val (.long (own_w j1)), .second, .val (.long (own_q i0 j1)), .second, .unset, .unset, .unset, .unset, .unset, .unset, .unset, .unset, .unset] []))
  refine own_lload X358 hx 41 rfl (hb hby at_39) rfl ?_
  refine own_iload X358 hx 43 rfl (hb hby at_41) rfl ?_
  refine own_i2l X358 hx 44 rfl (hb hby at_43) _ rfl ?_
  refine own_lrem X358 hx 45 rfl (hb hby at_44) (own_n64_nz i0) _ rfl ?_
  refine own_lstore X358 hx 47 rfl (hb hby at_45) #[.val (.int i0), .val (.long j1), .second, .val (.long j2), .second, .val (.long j3), .second, .val (.int (own_n i0)), .val (.long (own_ms j1)), .second, .val (.long (own_w j1)), .second, .val (.long (own_q i0 j1)), .second, .val (.long ((own_w j1) % ((own_n i0).toInt64))), .second, .unset, .unset, .unset, .unset, .unset, .unset, .unset] rfl ?_
  show own_Go _ _ _ _ _ (State.setTop _ (mkF _ 47 #[.val (.int i0), .val (.long j1), .second, .val (.long j2), .second, .val (.long j3), .second, .val (.int (own_n i0)), .val (.long (own_ms j1)), .second, .val (.long (own_w j1)), .second, .val (.long (own_q i0 j1)), .second, .val (.long (own_r i0 j1)), .second, .unset, .unset, .unset, .unset, .unset, .unset, .unset] []))
  refine own_lloadN X358 hx 48 rfl (hb hby at_47) rfl ?_
  refine own_ldcJ X358 hx hZ hown (own_hw hw 5 rfl) 51 rfl (hb hby at_48) ?_
  refine own_lload X358 hx 53 rfl (hb hby at_51) rfl ?_
  refine own_lsub X358 hx 54 rfl (hb hby at_53) _ rfl ?_
  refine own_callS X358 hx hZ (y := (⟨"java/lang/Math", "min", "(JJ)J"⟩ : MethodName)) hown (own_hw hw 8 rfl) (own_hw hw 9 rfl) (by decide) (rm_minJ l Z a0 hw [] j2 ((9223372036854775807 : Int64) - (own_w j1)) (own_t j1 j2) h0 n0 Z0 rfl) (own_hw hw 10 rfl) (own_hw hw 3 rfl) (by decide) e358 (by rw [hml]; rfl) [(.long j2), (.long ((9223372036854775807 : Int64) - (own_w j1)))] 0 (by decide) (Nat.le_of_eq rfl) (by decide) (by decide) (lenOf own_pd4 rfl) rfl rfl 57 rfl (hb hby at_54) fun v360 T360 Lc360 X360 hQ360 => ?_
  obtain ⟨rfl, Nq360, e360⟩ := hQ360
  have N361 := Fr.app N359 Nq360
  show own_Go _ _ _ _ _ (State.setTop _ (mkF _ 57 _ [(.long (own_t j1 j2))]))
  refine own_lstore X360 hx 59 rfl (hb hby at_57) #[.val (.int i0), .val (.long j1), .second, .val (.long j2), .second, .val (.long j3), .second, .val (.int (own_n i0)), .val (.long (own_ms j1)), .second, .val (.long (own_w j1)), .second, .val (.long (own_q i0 j1)), .second, .val (.long (own_r i0 j1)), .second, .val (.long (own_t j1 j2)), .second, .unset, .unset, .unset, .unset, .unset] rfl ?_
  refine own_lload X360 hx 61 rfl (hb hby at_59) rfl ?_
  refine own_ldcJ X360 hx hZ hown (own_hw hw 5 rfl) 64 rfl (hb hby at_61) ?_
  refine own_land X360 hx 65 rfl (hb hby at_64) _ rfl ?_
  refine own_lload X360 hx 67 rfl (hb hby at_65) rfl ?_
  refine own_lconst X360 hx 68 rfl (hb hby at_67) (1 : Int64) rfl ?_
  refine own_ladd X360 hx 69 rfl (hb hby at_68) _ rfl ?_
  refine own_lrem X360 hx 70 rfl (hb hby at_69) (own_qp1_nz i0 j1) _ rfl ?_
  refine own_lstore X360 hx 72 rfl (hb hby at_70) #[.val (.int i0), .val (.long j1), .second, .val (.long j2), .second, .val (.long j3), .second, .val (.int (own_n i0)), .val (.long (own_ms j1)), .second, .val (.long (own_w j1)), .second, .val (.long (own_q i0 j1)), .second, .val (.long (own_r i0 j1)), .second, .val (.long (own_t j1 j2)), .second, .val (.long ((j3 &&& (9223372036854775807 : Int64)) % ((own_q i0 j1) + (1 : Int64)))), .second, .unset, .unset, .unset] rfl ?_
  show own_Go _ _ _ _ _ (State.setTop _ (mkF _ 72 #[.val (.int i0), .val (.long j1), .second, .val (.long j2), .second, .val (.long j3), .second, .val (.int (own_n i0)), .val (.long (own_ms j1)), .second, .val (.long (own_w j1)), .second, .val (.long (own_q i0 j1)), .second, .val (.long (own_r i0 j1)), .second, .val (.long (own_t j1 j2)), .second, .val (.long (own_p i0 j1 j3)), .second, .unset, .unset, .unset] []))
  refine own_new X360 hx hZ hown (own_hw hw 11 rfl) (own_hw hw 12 rfl) (own_hw hw 13 rfl) e360 75 rfl (hb hby at_72) (by decide) (by decide) fun T362 h362 b362 g362 X362 e362 E362 A362 D362 => ?_
  have ge363 : n0 ≤ b362 := Nat.le_trans Z0 (Nat.le_of_eq g362.symm)
  have f364 := S1.ext E362
  have z365 := Nat.le_trans Z0 E362.1
  have f366 : Fld Z h362 b362 "com/example/portunus/portunus/RateLimiterConfig" "maxRequests" "I" (.int (0 : Int32)) := D362 (Or.inr (own_hw hw 25 rfl)) (ty := .int) (by decide)
  have f367 : Fld Z h362 b362 "com/example/portunus/portunus/RateLimiterConfig" "timeWindowMillis" "J" (.long (0 : Int64)) := D362 (Or.inr (own_hw hw 27 rfl)) (ty := .long) (by decide)
  have f368 : Fld Z h362 b362 "com/example/portunus/portunus/RateLimiterConfig" "type" "Lcom/example/portunus/portunus/RateLimiterType;" .null := D362 (Or.inr (own_hw hw 29 rfl)) (ty := (.object "com/example/portunus/portunus/RateLimiterType")) (by decide)
  refine own_dup X362 hx 76 rfl (hb hby at_75) rfl ?_
  refine own_iload X362 hx 78 rfl (hb hby at_76) rfl ?_
  refine own_lload X362 hx 80 rfl (hb hby at_78) rfl ?_
  refine own_getS X362 hx hZ (host := "") hown (Or.inl (own_hw hw 14 rfl)) Via.refl e362 f364 83 rfl (hb hby at_80) fun T369 X369 e369 => ?_
  refine own_special X369 hx hZ (y := (⟨"com/example/portunus/portunus/RateLimiterConfig", "<init>", "(IJLcom/example/portunus/portunus/RateLimiterType;)V"⟩ : MethodName)) hown rfl (own_hw hw 17 rfl) (own_hw hw 18 rfl) (a := b362) (by decide) rfl (rm_cfg l Z a0 hw [] b362 (own_n i0) (own_ms j1) ty h362 n0 z365 A362 f366 f367 f368 ge363 (own_n_pos i0) (own_ms_pos j1) (own_ms_le j1)) (own_hw hw 19 rfl) (own_hw hw 13 rfl) (by decide) e369 (by rw [hml]; rfl) [(.int (own_n i0)), (.long (own_ms j1)), (.ref ty)] 1 (by decide) (Nat.le_of_eq rfl) (by decide) (by decide) (lenOf own_pd5 rfl) rfl rfl 86 rfl (hb hby at_83) fun v370 T370 Lc370 X370 hQ370 => ?_
  obtain ⟨rfl, Nq370, Kq370, f371, f372, f373⟩ := hQ370
  have N374 := Fr.app N361 Nq370
  have f375 := own_staKeep f364 Kq370 (nsS A362.nostat ns0)
  have f376 := A362.keep Kq370
  have z380 := Nat.le_trans z365 Kq370.1
  show own_Go _ _ _ _ _ (State.setTop _ (mkF _ 86 _ [(.ref b362)]))
  refine own_astore X370 hx 88 rfl (hb hby at_86) rfl #[.val (.int i0), .val (.long j1), .second, .val (.long j2), .second, .val (.long j3), .second, .val (.int (own_n i0)), .val (.long (own_ms j1)), .second, .val (.long (own_w j1)), .second, .val (.long (own_q i0 j1)), .second, .val (.long (own_r i0 j1)), .second, .val (.long (own_t j1 j2)), .second, .val (.long (own_p i0 j1 j3)), .second, .val (.ref b362), .unset, .unset] rfl ?_
  refine own_new X370 hx hZ hown (own_hw hw 30 rfl) (own_hw hw 31 rfl) (own_hw hw 32 rfl) rfl 91 rfl (hb hby at_88) (by decide) (by decide) fun T381 h381 b381 g381 X381 e381 E381 A381 D381 => ?_
  have ne382 : b362 ≠ b381 := Nat.ne_of_lt (Nat.lt_of_lt_of_le f371.lt (Nat.le_of_eq g381.symm))
  have ge383 : n0 ≤ b381 := Nat.le_trans z380 (Nat.le_of_eq g381.symm)
  have f384 := f375.ext E381
  have f385 := f371.ext E381
  have f386 := f372.ext E381
  have f387 := f373.ext E381
  have z388 := Nat.le_trans z380 E381.1
  have f389 : Fld Z h381 b381 "com/example/portunus/portunus/Periods" "maxRequests" "I" (.int (0 : Int32)) := D381 (Or.inr (own_hw hw 43 rfl)) (ty := .int) (by decide)
  have f390 : Fld Z h381 b381 "com/example/portunus/portunus/Periods" "windowNanos" "J" (.long (0 : Int64)) := D381 (Or.inr (own_hw hw 51 rfl)) (ty := .long) (by decide)
  have f391 : Fld Z h381 b381 "com/example/portunus/portunus/Periods" "periodNanos" "J" (.long (0 : Int64)) := D381 (Or.inr (own_hw hw 53 rfl)) (ty := .long) (by decide)
  have f392 : Fld Z h381 b381 "com/example/portunus/portunus/Periods" "periodFraction" "J" (.long (0 : Int64)) := D381 (Or.inr (own_hw hw 55 rfl)) (ty := .long) (by decide)
  have f393 : Fld Z h381 b381 "com/example/portunus/portunus/Periods" "periodForGuesses" "D" (.double (0 : UInt64)) := D381 (Or.inr (own_hw hw 57 rfl)) (ty := .double) (by decide)
  have f394 : Fld Z h381 b381 "com/example/portunus/portunus/Periods" "roomMarkNanos" "J" (.long (0 : Int64)) := D381 (Or.inr (own_hw hw 59 rfl)) (ty := .long) (by decide)
  have f395 : Fld Z h381 b381 "com/example/portunus/portunus/Periods" "roomMarkFraction" "J" (.long (0 : Int64)) := D381 (Or.inr (own_hw hw 61 rfl)) (ty := .long) (by decide)
  refine own_dup X381 hx 92 rfl (hb hby at_91) rfl ?_
  refine own_aload X381 hx 94 rfl (hb hby at_92) rfl rfl ?_
  refine own_special X381 hx hZ (y := (⟨"com/example/portunus/portunus/Periods", "<init>", "(Lcom/example/portunus/portunus/RateLimiterConfig;)V"⟩ : MethodName)) hown rfl (own_hw hw 33 rfl) (own_hw hw 34 rfl) (a := b381) (by decide) rfl (rm_per l Z a0 hw [] b381 b362 (own_n i0) (own_ms j1) h381 n0 z388 A381 f389 f390 f391 f392 f393 f394 f395 ge383 f385 f386 f387 ne382 (own_n64_nz i0) (own_n_ne i0)) (own_hw hw 35 rfl) (own_hw hw 32 rfl) (by decide) e381 (by rw [hml]; rfl) [(.ref b362)] 1 (by decide) (Nat.le_of_eq rfl) (by decide) (by decide) (lenOf own_pd6 rfl) rfl rfl 97 rfl (hb hby at_94) fun v396 T396 Lc396 X396 hQ396 => ?_
  obtain ⟨rfl, Nq396, Kq396, f397, f398, f399, f400⟩ := hQ396
  have N401 := Fr.app N374 Nq396
  have f402 := own_staKeep f384 Kq396 (nsS A381.nostat ns0)
  have f403 := f385.keep Kq396
  have f404 := f386.keep Kq396 (ninS ne382 nin0)
  have f405 := f387.keep Kq396 (ninS ne382 nin0)
  have f406 := A381.keep Kq396
  have z414 := Nat.le_trans z388 Kq396.1
  have f415 : Fld Z T396.heap b381 "com/example/portunus/portunus/Periods" "periodNanos" "J" (.long (own_q i0 j1)) := f399
  have f416 : Fld Z T396.heap b381 "com/example/portunus/portunus/Periods" "periodFraction" "J" (.long (own_r i0 j1)) := f400
  show own_Go _ _ _ _ _ (State.setTop _ (mkF _ 97 _ [(.ref b381)]))
  refine own_astore X396 hx 99 rfl (hb hby at_97) rfl #[.val (.int i0), .val (.long j1), .second, .val (.long j2), .second, .val (.long j3), .second, .val (.int (own_n i0)), .val (.long (own_ms j1)), .second, .val (.long (own_w j1)), .second, .val (.long (own_q i0 j1)), .second, .val (.long (own_r i0 j1)), .second, .val (.long (own_t j1 j2)), .second, .val (.long (own_p i0 j1 j3)), .second, .val (.ref b362), .val (.ref b381), .unset] rfl ?_
  refine own_new X396 hx hZ hown (own_hw hw 62 rfl) (own_hw hw 63 rfl) (own_hw hw 64 rfl) rfl 102 rfl (hb hby at_99) (by decide) (by decide) fun T417 h417 b417 g417 X417 e417 E417 A417 D417 => ?_
  have ne418 : b381 ≠ b417 := Nat.ne_of_lt (Nat.lt_of_lt_of_le f397.lt (Nat.le_of_eq g417.symm))
  have ge419 : n0 ≤ b417 := Nat.le_trans z414 (Nat.le_of_eq g417.symm)
  have f420 := f397.ext E417
  have f421 := f398.ext E417
  have f422 := f415.ext E417
  have f423 := f416.ext E417
  have z424 := Nat.le_trans z414 E417.1
  have f425 : Fld Z h417 b417 "com/example/portunus/portunus/Periods$Debt" "time" "J" (.long (0 : Int64)) := D417 (Or.inl (own_hw hw 70 rfl)) (ty := .long) (by decide)
  have f426 : Fld Z h417 b417 "com/example/portunus/portunus/Periods$Debt" "fraction" "I" (.int (0 : Int32)) := D417 (Or.inl (own_hw hw 77 rfl)) (ty := .int) (by decide)
  have f427 : Fld Z h417 b417 "com/example/portunus/portunus/Periods$Debt" "nanos" "J" (.long (0 : Int64)) := D417 (Or.inl (own_hw hw 79 rfl)) (ty := .long) (by decide)
  refine own_dup X417 hx 103 rfl (hb hby at_102) rfl ?_
  refine own_lload X417 hx 105 rfl (hb hby at_103) rfl ?_
  refine own_special X417 hx hZ (y := (⟨"com/example/portunus/portunus/Periods$Debt", "<init>", "(J)V"⟩ : MethodName)) hown rfl (own_hw hw 65 rfl) (own_hw hw 66 rfl) (a := b417) (by decide) rfl (rm_debt l Z a0 hw [] b417 (own_t j1 j2) h417 n0 z424 A417 f425 f427 f426 ge419) (own_hw hw 67 rfl) (own_hw hw 64 rfl) (by decide) e417 (by rw [hml]; rfl) [(.long (own_t j1 j2))] 1 (by decide) (Nat.le_of_eq rfl) (by decide) (by decide) (lenOf own_pd7 rfl) rfl rfl 108 rfl (hb hby at_105) fun v428 T428 Lc428 X428 hQ428 => ?_
  obtain ⟨rfl, Nq428, Kq428, f429, f430, f431, f432⟩ := hQ428
  have N433 := Fr.app N401 Nq428
  have f434 := f420.keep Kq428
  have f435 := f421.keep Kq428 (ninS ne418 nin0)
  have f436 := f422.keep Kq428 (ninS ne418 nin0)
  have f437 := f423.keep Kq428 (ninS ne418 nin0)
  have f438 := A417.keep Kq428
  have z442 := Nat.le_trans z424 Kq428.1
  show own_Go _ _ _ _ _ (State.setTop _ (mkF _ 108 _ [(.ref b417)]))
  refine own_astore X428 hx 110 rfl (hb hby at_108) rfl #[.val (.int i0), .val (.long j1), .second, .val (.long j2), .second, .val (.long j3), .second, .val (.int (own_n i0)), .val (.long (own_ms j1)), .second, .val (.long (own_w j1)), .second, .val (.long (own_q i0 j1)), .second, .val (.long (own_r i0 j1)), .second, .val (.long (own_t j1 j2)), .second, .val (.long (own_p i0 j1 j3)), .second, .val (.ref b362), .val (.ref b381), .val (.ref b417)] rfl ?_
  refine own_aload X428 hx 112 rfl (hb hby at_110) rfl rfl ?_
  refine own_aload X428 hx 114 rfl (hb hby at_112) rfl rfl ?_
  refine own_virtual X428 hx hZ (y := (⟨"com/example/portunus/portunus/Periods", "addPeriod", "(Lcom/example/portunus/portunus/Periods$Debt;)V"⟩ : MethodName)) (z := (⟨"com/example/portunus/portunus/Periods", "addPeriod", "(Lcom/example/portunus/portunus/Periods$Debt;)V"⟩ : MethodName)) hown (own_hw hw 71 rfl) (own_hw hw 72 rfl) (own_hw hw 74 rfl) (own_hw hw 73 rfl) rfl (a := b381) f434 (by decide) (rm_addp l Z a0 hw [] b381 b417 (own_n i0) (own_q i0 j1) (own_r i0 j1) (own_t j1 j2) (0 : Int64) (0 : Int32) T428.heap n0 z442 f435 f436 f437 f429 f430 f431 f432 ne418 ge419 (own_n64_nz i0)) (own_hw hw 75 rfl) (own_hw hw 32 rfl) (by decide) rfl (by rw [hml]; rfl) [(.ref b417)] 0 (by decide) (Nat.le_of_eq rfl) (by decide) (by decide) (lenOf own_pd8 rfl) rfl rfl 117 rfl (hb hby at_114) fun v443 T443 Lc443 X443 hQ443 => ?_
  obtain ⟨rfl, Nq443, Kq443, f444, f445, f446, f447⟩ := hQ443
  have N448 := Fr.app N433 Nq443
  have f449 := f434.keep Kq443
  have f450 := f435.keep Kq443 (ninS ne418 nin0)
  have f451 := f436.keep Kq443 (ninS ne418 nin0)
  have f452 := f437.keep Kq443 (ninS ne418 nin0)
  have f453 := f429.keep Kq443
  have z457 := Nat.le_trans z442 Kq443.1
  have f458 : Fld Z T443.heap b417 "com/example/portunus/portunus/Periods$Debt" "nanos" "J" (.long (own_a1 i0 j1)) := f446
  have f459 : Fld Z T443.heap b417 "com/example/portunus/portunus/Periods$Debt" "fraction" "I" (.int (own_f1 i0 j1)) := f447
  show own_Go _ _ _ _ _ (State.setTop _ (mkF _ 117 _ []))
  refine own_aload X443 hx 119 rfl (hb hby at_117) rfl rfl ?_
  refine own_virtual X443 hx hZ (y := (⟨"com/example/portunus/portunus/Periods$Debt", "roundedUp", "()J"⟩ : MethodName)) (z := (⟨"com/example/portunus/portunus/Periods$Debt", "roundedUp", "()J"⟩ : MethodName)) hown (own_hw hw 80 rfl) (own_hw hw 81 rfl) (own_hw hw 83 rfl) (own_hw hw 82 rfl) rfl (a := b417) f444 (by decide) (rm_up l Z a0 hw [] b417 (own_a1 i0 j1) (own_f1 i0 j1) T443.heap n0 z457 f458 f459) (own_hw hw 84 rfl) (own_hw hw 64 rfl) (by decide) rfl (by rw [hml]; rfl) [] 0 (by decide) (Nat.le_of_eq rfl) (by decide) (by decide) (lenOf own_pd1 rfl) rfl rfl 122 rfl (hb hby at_119) fun v460 T460 Lc460 X460 hQ460 => ?_
  obtain ⟨rfl, Nq460, e460⟩ := hQ460
  have N461 := Fr.app N448 Nq460
  show own_Go _ _ _ _ _ (State.setTop _ (mkF _ 122 _ [(.long (own_up (own_a1 i0 j1) (own_f1 i0 j1)))]))
  refine own_lconst X460 hx 123 rfl (hb hby at_122) (1 : Int64) rfl ?_
  refine own_lload X460 hx 125 rfl (hb hby at_123) rfl ?_
  refine own_lload X460 hx 127 rfl (hb hby at_125) rfl ?_
  refine own_iload X460 hx 129 rfl (hb hby at_127) rfl ?_
  refine own_i2l X460 hx 130 rfl (hb hby at_129) _ rfl ?_
  refine own_callS X460 hx hZ (y := (⟨"com/example/portunus/portunus/PeriodsAddPeriodPinLaw", "ceilOfPeriods", "(JJJJ)J"⟩ : MethodName)) hown (own_hw hw 87 rfl) (own_hw hw 88 rfl) (by decide) (rm_ceil l Z a0 hw [] (1 : Int64) (own_q i0 j1) (own_r i0 j1) (own_n i0).toInt64 T443.heap n0 z457 (own_n64_nz i0)) (own_hw hw 90 rfl) (own_hw hw 89 rfl) (by decide) e460 (by rw [hml]; rfl) [(.long (1 : Int64)), (.long (own_q i0 j1)), (.long (own_r i0 j1)), (.long ((own_n i0).toInt64))] 2 (by decide) (Nat.le_of_eq rfl) (by decide) (by decide) (lenOf own_pd9 rfl) rfl rfl 133 rfl (hb hby at_130) fun v462 T462 Lc462 X462 hQ462 => ?_
  obtain ⟨rfl, Nq462, e462⟩ := hQ462
  have N463 := Fr.app N461 Nq462
  show own_Go _ _ _ _ _ (State.setTop _ (mkF _ 133 _ [(.long (own_ceil (1 : Int64) (own_q i0 j1) (own_r i0 j1) ((own_n i0).toInt64))), (.long (own_up (own_a1 i0 j1) (own_f1 i0 j1)))]))
  refine own_lcmp X462 hx 134 rfl (hb hby at_133) _ rfl ?_
  refine own_ifYes X462 hx 139 (hb hby at_134) ((if0 _ _).trans (teq ((lw_eq _ _).mpr (own_e1 i0 j1))).1) (by decide) rfl ?_
  refine own_iload X462 hx 141 rfl (hb hby at_139) rfl ?_
  refine own_iconst X462 hx 142 rfl (hb hby at_141) (2 : Int32) rfl ?_
  by_cases hc464 : (own_n i0) < (2 : Int32)
  ·
    refine own_icmpNo X462 hx 145 rfl (hb hby at_142) (tlt hc464).2.1 ?_
    refine own_iconst X462 hx 146 rfl (hb hby at_145) (1 : Int32) rfl ?_
    refine own_ret X462 (some (.int (1 : Int32))) (fun h => by rw [Bd.returns] at h; cases h) Bd.notSynchronized (by decide) (by decide) ?_ (fun fs hr => retN X462 hx (t := .boolean) Bd.returns (by simp) (hb hby at_146) hr)
    show Q_rm0 Z i0 j1 j2 j3 ty h0 n0 _ T462.heap _
    rw [e462]
    exact ⟨rfl, N463⟩
  ·
    refine own_icmpYes X462 hx 147 (hb hby at_142) (flt hc464).2.1 (by decide) rfl ?_
    refine own_aload X462 hx 149 rfl (hb hby at_147) rfl rfl ?_
    refine own_lload X462 hx 151 rfl (hb hby at_149) rfl ?_
    refine own_lload X462 hx 153 rfl (hb hby at_151) rfl ?_
    refine own_ladd X462 hx 154 rfl (hb hby at_153) _ rfl ?_
    refine own_virtual X462 hx hZ (y := (⟨"com/example/portunus/portunus/Periods$Debt", "payOff", "(J)V"⟩ : MethodName)) (z := (⟨"com/example/portunus/portunus/Periods$Debt", "payOff", "(J)V"⟩ : MethodName)) hown (own_hw hw 91 rfl) (own_hw hw 92 rfl) (own_hw hw 94 rfl) (own_hw hw 93 rfl) rfl (a := b417) f444 (by decide) (rm_pay l Z a0 hw [] b417 ((own_t j1 j2) + (own_p i0 j1 j3)) (own_t j1 j2) (own_a1 i0 j1) (own_f1 i0 j1) T443.heap n0 z457 f444 f445 f458 f459 ge419 (own_nocu i0 j1 j2 j3)) (own_hw hw 95 rfl) (own_hw hw 64 rfl) (by decide) e462 (by rw [hml]; rfl) [(.long ((own_t j1 j2) + (own_p i0 j1 j3)))] 0 (by decide) (Nat.le_of_eq rfl) (by decide) (by decide) (lenOf own_pd7 rfl) rfl rfl 157 rfl (hb hby at_154) fun v465 T465 Lc465 X465 hQ465 => ?_
    obtain ⟨rfl, Nq465, Kq465, f466, f467, f468, f469⟩ := hQ465
    have N470 := Fr.app N463 Nq465
    have f471 := f449.keep Kq465
    have f472 := f450.keep Kq465 (ninS ne418 nin0)
    have f473 := f451.keep Kq465 (ninS ne418 nin0)
    have f474 := f452.keep Kq465 (ninS ne418 nin0)
    have f475 := f444.keep Kq465
    have z479 := Nat.le_trans z457 Kq465.1
    have f480 : Fld Z T465.heap b417 "com/example/portunus/portunus/Periods$Debt" "nanos" "J" (.long (own_b1 i0 j1 j2 j3)) := f468
    show own_Go _ _ _ _ _ (State.setTop _ (mkF _ 157 _ []))
    refine own_aload X465 hx 159 rfl (hb hby at_157) rfl rfl ?_
    refine own_aload X465 hx 161 rfl (hb hby at_159) rfl rfl ?_
    refine own_virtual X465 hx hZ (y := (⟨"com/example/portunus/portunus/Periods", "addPeriod", "(Lcom/example/portunus/portunus/Periods$Debt;)V"⟩ : MethodName)) (z := (⟨"com/example/portunus/portunus/Periods", "addPeriod", "(Lcom/example/portunus/portunus/Periods$Debt;)V"⟩ : MethodName)) hown (own_hw hw 71 rfl) (own_hw hw 72 rfl) (own_hw hw 74 rfl) (own_hw hw 73 rfl) rfl (a := b381) f471 (by decide) (rm_addp l Z a0 hw [] b381 b417 (own_n i0) (own_q i0 j1) (own_r i0 j1) ((own_t j1 j2) + (own_p i0 j1 j3)) (own_b1 i0 j1 j2 j3) (own_f1 i0 j1) T465.heap n0 z479 f472 f473 f474 f466 f467 f480 f469 ne418 ge419 (own_n64_nz i0)) (own_hw hw 75 rfl) (own_hw hw 32 rfl) (by decide) rfl (by rw [hml]; rfl) [(.ref b417)] 0 (by decide) (Nat.le_of_eq rfl) (by decide) (by decide) (lenOf own_pd8 rfl) rfl rfl 164 rfl (hb hby at_161) fun v481 T481 Lc481 X481 hQ481 => ?_
    obtain ⟨rfl, Nq481, Kq481, f482, f483, f484, f485⟩ := hQ481
    have N486 := Fr.app N470 Nq481
    have f487 := f471.keep Kq481
    have f488 := f472.keep Kq481 (ninS ne418 nin0)
    have f489 := f473.keep Kq481 (ninS ne418 nin0)
    have f490 := f474.keep Kq481 (ninS ne418 nin0)
    have f491 := f466.keep Kq481
    have z495 := Nat.le_trans z479 Kq481.1
    have f496 : Fld Z T481.heap b417 "com/example/portunus/portunus/Periods$Debt" "nanos" "J" (.long (own_a2 i0 j1 j2 j3)) := f484
    have f497 : Fld Z T481.heap b417 "com/example/portunus/portunus/Periods$Debt" "fraction" "I" (.int (own_f2 i0 j1)) := f485
    show own_Go _ _ _ _ _ (State.setTop _ (mkF _ 164 _ []))
    refine own_aload X481 hx 166 rfl (hb hby at_164) rfl rfl ?_
    refine own_virtual X481 hx hZ (y := (⟨"com/example/portunus/portunus/Periods$Debt", "roundedUp", "()J"⟩ : MethodName)) (z := (⟨"com/example/portunus/portunus/Periods$Debt", "roundedUp", "()J"⟩ : MethodName)) hown (own_hw hw 80 rfl) (own_hw hw 81 rfl) (own_hw hw 83 rfl) (own_hw hw 82 rfl) rfl (a := b417) f482 (by decide) (rm_up l Z a0 hw [] b417 (own_a2 i0 j1 j2 j3) (own_f2 i0 j1) T481.heap n0 z495 f496 f497) (own_hw hw 84 rfl) (own_hw hw 64 rfl) (by decide) rfl (by rw [hml]; rfl) [] 0 (by decide) (Nat.le_of_eq rfl) (by decide) (by decide) (lenOf own_pd1 rfl) rfl rfl 169 rfl (hb hby at_166) fun v498 T498 Lc498 X498 hQ498 => ?_
    obtain ⟨rfl, Nq498, e498⟩ := hQ498
    have N499 := Fr.app N486 Nq498
    show own_Go _ _ _ _ _ (State.setTop _ (mkF _ 169 _ [(.long (own_up (own_a2 i0 j1 j2 j3) (own_f2 i0 j1)))]))
    refine own_ldcJ X498 hx hZ hown (own_hw hw 104 rfl) 172 rfl (hb hby at_169) ?_
    refine own_lload X498 hx 174 rfl (hb hby at_172) rfl ?_
    refine own_lload X498 hx 176 rfl (hb hby at_174) rfl ?_
    refine own_iload X498 hx 178 rfl (hb hby at_176) rfl ?_
    refine own_i2l X498 hx 179 rfl (hb hby at_178) _ rfl ?_
    refine own_callS X498 hx hZ (y := (⟨"com/example/portunus/portunus/PeriodsAddPeriodPinLaw", "ceilOfPeriods", "(JJJJ)J"⟩ : MethodName)) hown (own_hw hw 87 rfl) (own_hw hw 88 rfl) (by decide) (rm_ceil l Z a0 hw [] (2 : Int64) (own_q i0 j1) (own_r i0 j1) (own_n i0).toInt64 T481.heap n0 z495 (own_n64_nz i0)) (own_hw hw 90 rfl) (own_hw hw 89 rfl) (by decide) e498 (by rw [hml]; rfl) [(.long (2 : Int64)), (.long (own_q i0 j1)), (.long (own_r i0 j1)), (.long ((own_n i0).toInt64))] 2 (by decide) (Nat.le_of_eq rfl) (by decide) (by decide) (lenOf own_pd9 rfl) rfl rfl 182 rfl (hb hby at_179) fun v500 T500 Lc500 X500 hQ500 => ?_
    obtain ⟨rfl, Nq500, e500⟩ := hQ500
    have N501 := Fr.app N499 Nq500
    show own_Go _ _ _ _ _ (State.setTop _ (mkF _ 182 _ [(.long (own_ceil (2 : Int64) (own_q i0 j1) (own_r i0 j1) ((own_n i0).toInt64))), (.long (own_up (own_a2 i0 j1 j2 j3) (own_f2 i0 j1)))]))
    refine own_lload X500 hx 184 rfl (hb hby at_182) rfl ?_
    refine own_lsub X500 hx 185 rfl (hb hby at_184) _ rfl ?_
    refine own_lcmp X500 hx 186 rfl (hb hby at_185) _ rfl ?_
    refine own_ifYes X500 hx 191 (hb hby at_186) ((if0 _ _).trans (teq ((lw_eq _ _).mpr (own_e2 i0 j1 j2 j3 (own_ge i0 (by decide : ((2 : Int32)).toInt = 2) hc464)))).1) (by decide) rfl ?_
    refine own_iload X500 hx 193 rfl (hb hby at_191) rfl ?_
    refine own_iconst X500 hx 194 rfl (hb hby at_193) (3 : Int32) rfl ?_
    by_cases hc502 : (own_n i0) < (3 : Int32)
    ·
      refine own_icmpNo X500 hx 197 rfl (hb hby at_194) (tlt hc502).2.1 ?_
      refine own_iconst X500 hx 198 rfl (hb hby at_197) (1 : Int32) rfl ?_
      refine own_ret X500 (some (.int (1 : Int32))) (fun h => by rw [Bd.returns] at h; cases h) Bd.notSynchronized (by decide) (by decide) ?_ (fun fs hr => retN X500 hx (t := .boolean) Bd.returns (by simp) (hb hby at_198) hr)
      show Q_rm0 Z i0 j1 j2 j3 ty h0 n0 _ T500.heap _
      rw [e500]
      exact ⟨rfl, N501⟩
    ·
      refine own_icmpYes X500 hx 199 (hb hby at_194) (flt hc502).2.1 (by decide) rfl ?_
      refine own_aload X500 hx 201 rfl (hb hby at_199) rfl rfl ?_
      refine own_aload X500 hx 203 rfl (hb hby at_201) rfl rfl ?_
      refine own_virtual X500 hx hZ (y := (⟨"com/example/portunus/portunus/Periods", "addPeriod", "(Lcom/example/portunus/portunus/Periods$Debt;)V"⟩ : MethodName)) (z := (⟨"com/example/portunus/portunus/Periods", "addPeriod", "(Lcom/example/portunus/portunus/Periods$Debt;)V"⟩ : MethodName)) hown (own_hw hw 71 rfl) (own_hw hw 72 rfl) (own_hw hw 74 rfl) (own_hw hw 73 rfl) rfl (a := b381) f487 (by decide) (rm_addp l Z a0 hw [] b381 b417 (own_n i0) (own_q i0 j1) (own_r i0 j1) ((own_t j1 j2) + (own_p i0 j1 j3)) (own_a2 i0 j1 j2 j3) (own_f2 i0 j1) T481.heap n0 z495 f488 f489 f490 f482 f483 f496 f497 ne418 ge419 (own_n64_nz i0)) (own_hw hw 75 rfl) (own_hw hw 32 rfl) (by decide) e500 (by rw [hml]; rfl) [(.ref b417)] 0 (by decide) (Nat.le_of_eq rfl) (by decide) (by decide) (lenOf own_pd8 rfl) rfl rfl 206 rfl (hb hby at_203) fun v503 T503 Lc503 X503 hQ503 => ?_
      obtain ⟨rfl, Nq503, Kq503, f504, f505, f506, f507⟩ := hQ503
      have N508 := Fr.app N501 Nq503
      have f509 := f487.keep Kq503
      have f510 := f488.keep Kq503 (ninS ne418 nin0)
      have f511 := f489.keep Kq503 (ninS ne418 nin0)
      have f512 := f490.keep Kq503 (ninS ne418 nin0)
      have f513 := f482.keep Kq503
      have z517 := Nat.le_trans z495 Kq503.1
      have f518 : Fld Z T503.heap b417 "com/example/portunus/portunus/Periods$Debt" "nanos" "J" (.long (own_a3 i0 j1 j2 j3)) := f506
      have f519 : Fld Z T503.heap b417 "com/example/portunus/portunus/Periods$Debt" "fraction" "I" (.int (own_f3 i0 j1)) := f507
      show own_Go _ _ _ _ _ (State.setTop _ (mkF _ 206 _ []))
      refine own_aload X503 hx 208 rfl (hb hby at_206) rfl rfl ?_
      refine own_virtual X503 hx hZ (y := (⟨"com/example/portunus/portunus/Periods$Debt", "roundedUp", "()J"⟩ : MethodName)) (z := (⟨"com/example/portunus/portunus/Periods$Debt", "roundedUp", "()J"⟩ : MethodName)) hown (own_hw hw 80 rfl) (own_hw hw 81 rfl) (own_hw hw 83 rfl) (own_hw hw 82 rfl) rfl (a := b417) f504 (by decide) (rm_up l Z a0 hw [] b417 (own_a3 i0 j1 j2 j3) (own_f3 i0 j1) T503.heap n0 z517 f518 f519) (own_hw hw 84 rfl) (own_hw hw 64 rfl) (by decide) rfl (by rw [hml]; rfl) [] 0 (by decide) (Nat.le_of_eq rfl) (by decide) (by decide) (lenOf own_pd1 rfl) rfl rfl 211 rfl (hb hby at_208) fun v520 T520 Lc520 X520 hQ520 => ?_
      obtain ⟨rfl, Nq520, e520⟩ := hQ520
      have N521 := Fr.app N508 Nq520
      show own_Go _ _ _ _ _ (State.setTop _ (mkF _ 211 _ [(.long (own_up (own_a3 i0 j1 j2 j3) (own_f3 i0 j1)))]))
      refine own_ldcJ X520 hx hZ hown (own_hw hw 105 rfl) 214 rfl (hb hby at_211) ?_
      refine own_lload X520 hx 216 rfl (hb hby at_214) rfl ?_
      refine own_lload X520 hx 218 rfl (hb hby at_216) rfl ?_
      refine own_iload X520 hx 220 rfl (hb hby at_218) rfl ?_
      refine own_i2l X520 hx 221 rfl (hb hby at_220) _ rfl ?_
      refine own_callS X520 hx hZ (y := (⟨"com/example/portunus/portunus/PeriodsAddPeriodPinLaw", "ceilOfPeriods", "(JJJJ)J"⟩ : MethodName)) hown (own_hw hw 87 rfl) (own_hw hw 88 rfl) (by decide) (rm_ceil l Z a0 hw [] (3 : Int64) (own_q i0 j1) (own_r i0 j1) (own_n i0).toInt64 T503.heap n0 z517 (own_n64_nz i0)) (own_hw hw 90 rfl) (own_hw hw 89 rfl) (by decide) e520 (by rw [hml]; rfl) [(.long (3 : Int64)), (.long (own_q i0 j1)), (.long (own_r i0 j1)), (.long ((own_n i0).toInt64))] 2 (by decide) (Nat.le_of_eq rfl) (by decide) (by decide) (lenOf own_pd9 rfl) rfl rfl 224 rfl (hb hby at_221) fun v522 T522 Lc522 X522 hQ522 => ?_
      obtain ⟨rfl, Nq522, e522⟩ := hQ522
      have N523 := Fr.app N521 Nq522
      show own_Go _ _ _ _ _ (State.setTop _ (mkF _ 224 _ [(.long (own_ceil (3 : Int64) (own_q i0 j1) (own_r i0 j1) ((own_n i0).toInt64))), (.long (own_up (own_a3 i0 j1 j2 j3) (own_f3 i0 j1)))]))
      refine own_lload X522 hx 226 rfl (hb hby at_224) rfl ?_
      refine own_lsub X522 hx 227 rfl (hb hby at_226) _ rfl ?_
      refine own_lcmp X522 hx 228 rfl (hb hby at_227) _ rfl ?_
      refine own_ifNo X522 hx 231 rfl (hb hby at_228) ((if0 _ _).trans (teq ((lw_eq _ _).mpr (own_e3 i0 j1 j2 j3 (own_ge i0 (by decide : ((3 : Int32)).toInt = 3) hc502)))).2) ?_
      refine own_iconst X522 hx 232 rfl (hb hby at_231) (1 : Int32) rfl ?_
      refine own_goto X522 hx 236 (hb hby at_232) (by decide) rfl ?_
      refine own_ret X522 (some (.int (1 : Int32))) (fun h => by rw [Bd.returns] at h; cases h) Bd.notSynchronized (by decide) (by decide) ?_ (fun fs hr => retN X522 hx (t := .boolean) Bd.returns (by simp) (hb hby at_236) hr)
      show Q_rm0 Z i0 j1 j2 j3 ty h0 n0 _ T522.heap _
      rw [e522]
      exact ⟨rfl, N523⟩
set_option maxRecDepth 65536 in
set_option maxHeartbeats 40000000 in
theorem comes_1 {Post : Tables → Env → Array Value → State → Outcome → State → Prop} (hpost : ∀ tb e args s v u, (limb_1_1.after args s (.returned v) u = true ∧ limb_1_2.after args s (.returned v) u = true ∧ True) → FrameEnd s (.returned v) u (Jvm.fieldLocs frame_1_writes args s ++ Jvm.arrayLocs frame_1_arrays args s ++ Jvm.staticLocs frame_1_statics s) 16 128 → Post tb e args s (.returned v) u) :
    ArmFor flags0 classFile x code maxLocals ret World_1 tables_1 room_1 Calls_1 rest_1 Pre_1 Post := by
  intro l hfl _ _ p e ha hc hk s m args below hf hA hF happ hP
  obtain ⟨hcalls, hrest, hpre⟩ := hP
  obtain ⟨-, -, -, hnamed, -, -, -, hat⟩ := (Spec.applies_iff hf).mp happ
  obtain ⟨hg, hn⟩ := and_e (Cond.before_iff.mp (show (Jvm.Cond.and given_1 narrow_1).before args s = true from hpre))
  obtain ⟨hcount, hg1⟩ := and_e hg
  obtain ⟨ha0, hgr0⟩ := and_e hg1
  obtain ⟨ha1, hgr1⟩ := and_e hgr0
  obtain ⟨ha2, hgr2⟩ := and_e hgr1
  obtain ⟨w0, w1, w2, w3, rfl⟩ : ∃ w0 w1 w2 w3 : Value, args = #[w0, w1, w2, w3] := by
    have hs : args.size = 4 := by simpa [Cond.value, given_1] using hcount
    obtain ⟨L⟩ := args
    match L, hs with
    | [w0, w1, w2, w3], _ => exact ⟨w0, w1, w2, w3, rfl⟩
  have hw := fun d (hd : d ∈ tables_1) => atoms_spec (ws := Jvm.Cond.code x code maxLocals ret :: tables_1) hat d (List.mem_cons_of_mem _ hd)
  have hfit : Fit s := fun {y c} hc i hi => by
    obtain ⟨ha, rfl⟩ := Array.getElem?_eq_some_iff.mp hc
    have q := List.all_eq_true.mp ((Array.all_eq_true_iff_forall_mem.mp hF) _ (Array.getElem_mem ha)) i (List.mem_range.mpr hi)
    simpa [Array.getElem?_eq_getElem hi] using q
  obtain ⟨i0, ei0⟩ := is_v ha0
  obtain rfl : w0 = (.int i0) := Option.some.inj ei0
  obtain ⟨i1, ei1⟩ := isL_v ha1
  obtain rfl : w1 = (.long i1) := Option.some.inj ei1
  obtain ⟨i2, ei2⟩ := isL_v ha2
  obtain rfl : w2 = (.long i2) := Option.some.inj ei2
  obtain ⟨i3, ei3⟩ := isL_v hgr2
  obtain rfl : w3 = (.long i3) := Option.some.inj ei3
  obtain ⟨ty, ety⟩ := exa_v hn
  obtain ⟨n, o, h1, h2, h3, _, L, rfl, ⟨rfl, N⟩, hq⟩ := rm0 l s _ hw tables_1 i0 i1 i2 i3 ty s.heap s.heap.size (Nat.le_refl _) (Sta.start ety (Or.inr ⟨(own_hw hw 15 rfl), (own_hw hw 16 rfl)⟩)) p e ha hc hk s m _ below hf ((Spec.applies_iff_loose hf).mp happ).1 ⟨rfl, State.Warmed39.refl s, rfl⟩ trivial
  refine ⟨n, _, h1, h2, h3, hpost _ _ _ _ _ _ ⟨Cond.after_iff.mpr rfl, Cond.after_iff.mpr (eq_i res_at (Term.int_eval (1)) rfl), trivial⟩ ⟨hq.1, hq.2.1, (hq.2.2.sift fun y hy => Or.inr (N y hy)).mono (by decide) (by decide)⟩⟩
theorem main_1_1 : Claimed_1_1 := comes_1 fun _ _ _ _ _ _ h hF => ⟨h.1, hF⟩
theorem main_1_2 : Claimed_1_2 := comes_1 fun _ _ _ _ _ _ h hF => ⟨h.2.1, hF⟩
end Jvm.Pilot.@@N@@
namespace Jvm.Pilot.@@N@@
open Jvm Jvm.ClassFile Sem Op Lib Jvm.Free Jvm.Stand Jvm.Pilot.@@N@@.Jvm.D
/-! MADE BY PROGRAM (witnessworld.py) out of the Statement's table words and the real class files: 19 classes; the members and pool entries that the words name. The judged class is class 1, her method 1. -/
namespace start1
open Jvm.ClassFile
def u (s : String) : CpInfo := .utf8 (stringToUtf16 s)
/-- a pool by its gaps: so many unusable entries, then the entry; so many at the end -/
def gap : Nat → List CpInfo → List CpInfo
  | 0, r => r
  | n + 1, r => .unusable :: gap n r
def poolList (es : List (Nat × CpInfo)) (last : Nat) : List CpInfo := es.foldr (fun e r => gap e.1 (e.2 :: r)) (gap last [])
def pool (es : List (Nat × CpInfo)) (last : Nat) : Array CpInfo := ⟨poolList es last⟩
def fileOf (pool : Array CpInfo) (this : Nat) (attrs : Array Attribute := #[]) (ms : Array MethodInfo := #[]) (fl : Nat := 33) (sup : Nat := 0) (ifs : Array Nat := #[]) (fds : Array FieldInfo := #[]) : ClassFile where
  minorVersion := 0
  majorVersion := 65
  constantPool := pool
  accessFlags := fl
  thisClass := this
  superClass := sup
  interfaces := ifs
  fields := fds
  methods := ms
  attributes := attrs
def plain (name : String) (sup : Option ClassId) : Class where
  name := name
  kind := .ordinary
  loader := none
  accessFlags := 33
  super := sup
  interfaces := #[]
  cf := none
  fields := #[]
  methods := #[]
  instanceTypes := #[]
  staticTypes := #[]
  resolved := #[]
  callSites := []
  init := .initialized
  statics := none
  mirror := none

def pool0 : Array CpInfo := pool [(5, u "<init>"), (0, u "()V"), (1, .class_ 10), (1, u "java/lang/Object")] 113

def k0c0 : Code := { maxStack := 0, maxLocals := 1, code := object_method_1_code, exceptionTable := #[], attributes := #[] }
def k0m0 : Method := { name := "<init>", desc := "()V", sig := { parameters := [], returnType := none }, accessFlags := 1, code := some k0c0 }
/-- java/lang/Object -/
def k0 : Class := { plain "java/lang/Object" none with
  accessFlags := 33
  interfaces := #[]
  cf := some (fileOf pool0 8 #[] #[{ accessFlags := 1, nameIndex := 5, descriptorIndex := 6, attributes := #[] }] 33 0 #[] #[])
  fields := #[]
  methods := #[k0m0]
  instanceTypes := #[]
  staticTypes := #[]
  resolved := Array.replicate 124 none
  statics := none }

def pool1 : Array CpInfo := pool [(2, .class_ 4), (1, u "java/lang/Object"), (0, u "<init>"), (0, u "()V"), (0, .integer 2147483647), (0, .methodref 9 10), (0, .class_ 11), (0, .nameAndType 12 13), (0, u "java/lang/Math"), (0, u "max"), (0, u "(II)I"), (2, .long 9223372036854775807), (1, .long 9223372036854), (1, .long 1000000), (1, .methodref 9 23), (0, .nameAndType 24 25), (0, u "min"), (0, u "(JJ)J"), (0, .class_ 27), (0, u "com/example/portunus/portunus/RateLimiterConfig"), (0, .fieldref 29 30), (0, .class_ 31), (0, .nameAndType 32 33), (0, u "com/example/portunus/portunus/RateLimiterType"), (0, u "TOKEN_BUCKET"), (0, u "Lcom/example/portunus/portunus/RateLimiterType;"), (0, .methodref 26 35), (0, .nameAndType 5 36), (0, u "(IJLcom/example/portunus/portunus/RateLimiterType;)V"), (0, .class_ 38), (0, u "com/example/portunus/portunus/Periods"), (0, .methodref 37 40), (0, .nameAndType 5 41), (0, u "(Lcom/example/portunus/portunus/RateLimiterConfig;)V"), (0, .class_ 43), (0, u "com/example/portunus/portunus/Periods$Debt"), (0, .methodref 42 45), (0, .nameAndType 5 46), (0, u "(J)V"), (0, .methodref 37 48), (0, .nameAndType 49 50), (0, u "addPeriod"), (0, u "(Lcom/example/portunus/portunus/Periods$Debt;)V"), (0, .methodref 42 52), (0, .nameAndType 53 54), (0, u "roundedUp"), (0, u "()J"), (0, .methodref 56 57), (0, .class_ 58), (0, .nameAndType 59 60), (0, u "com/example/portunus/portunus/PeriodsAddPeriodPinLaw"), (0, u "ceilOfPeriods"), (0, u "(JJJJ)J"), (0, .methodref 42 62), (0, .nameAndType 63 46), (0, u "payOff"), (0, .long 2), (1, .long 3), (3, u "law"), (0, u "(IJJJ)Z")] 5

def k1m0 : Method := { name := "<init>", desc := "()V", sig := { parameters := [], returnType := none }, accessFlags := 1, code := none }
def k1c1 : Code := { maxStack := 10, maxLocals := 23, code := code, exceptionTable := #[], attributes := #[] }
def k1m1 : Method := { name := "law", desc := "(IJJJ)Z", sig := { parameters := [.int, .long, .long, .long], returnType := some .boolean }, accessFlags := 9, code := some k1c1 }
def k1c2 : Code := { maxStack := 6, maxLocals := 10, code := method_3_code, exceptionTable := #[], attributes := #[] }
def k1m2 : Method := { name := "ceilOfPeriods", desc := "(JJJJ)J", sig := { parameters := [.long, .long, .long, .long], returnType := some .long }, accessFlags := 10, code := some k1c2 }
/-- com/example/portunus/portunus/PeriodsAddPeriodPinLaw -/
def k1 : Class := { plain "com/example/portunus/portunus/PeriodsAddPeriodPinLaw" (some 0) with
  accessFlags := 49
  interfaces := #[]
  cf := some (fileOf pool1 56 #[] #[{ accessFlags := 1, nameIndex := 5, descriptorIndex := 6, attributes := #[] }, { accessFlags := 9, nameIndex := 70, descriptorIndex := 71, attributes := #[] }, { accessFlags := 10, nameIndex := 59, descriptorIndex := 60, attributes := #[] }] 49 2 #[] #[])
  fields := #[]
  methods := #[k1m0, k1m1, k1m2]
  instanceTypes := #[]
  staticTypes := #[]
  resolved := Array.replicate 77 none
  statics := none }

def pool2 : Array CpInfo := pool [(1, .class_ 2), (0, u "java/lang/Math"), (1, .class_ 6), (1, u "java/lang/Object"), (0, u "<init>"), (0, u "()V"), (89, .class_ 100), (1, u "java/lang/Math$RandomNumberGeneratorHolder"), (20, u "(JJ)J"), (50, u "negativeZeroFloatBits"), (0, u "J"), (2, u "negativeZeroDoubleBits"), (21, u "max"), (2, u "min"), (43, u "$assertionsDisabled"), (0, u "Z"), (88, u "(II)I"), (2, u "twoToTheDoubleScaleDown"), (0, u "D"), (4, u "twoToTheDoubleScaleUp"), (9, u "E"), (3, u "PI"), (2, u "TAU"), (2, u "DEGREES_TO_RADIANS"), (0, u "RADIANS_TO_DEGREES")] 94

def k2m0 : Method := { name := "<init>", desc := "()V", sig := { parameters := [], returnType := none }, accessFlags := 2, code := none }
def k2c1 : Code := { maxStack := 2, maxLocals := 2, code := jdk_29_method_65_code, exceptionTable := #[], attributes := #[] }
def k2m1 : Method := { name := "max", desc := "(II)I", sig := { parameters := [.int, .int], returnType := some .int }, accessFlags := 9, code := some k2c1 }
def k2c2 : Code := { maxStack := 4, maxLocals := 4, code := jdk_29_method_70_code, exceptionTable := #[], attributes := #[] }
def k2m2 : Method := { name := "min", desc := "(JJ)J", sig := { parameters := [.long, .long], returnType := some .long }, accessFlags := 9, code := some k2c2 }
/-- java/lang/Math -/
def k2 : Class := { plain "java/lang/Math" (some 0) with
  accessFlags := 49
  interfaces := #[]
  cf := some (fileOf pool2 1 #[.nestMembers #[98]] #[{ accessFlags := 2, nameIndex := 7, descriptorIndex := 8, attributes := #[] }, { accessFlags := 9, nameIndex := 198, descriptorIndex := 335, attributes := #[] }, { accessFlags := 9, nameIndex := 201, descriptorIndex := 121, attributes := #[] }] 49 4 #[] #[{ accessFlags := 25, nameIndex := 354, descriptorIndex := 339, attributes := #[] }, { accessFlags := 25, nameIndex := 358, descriptorIndex := 339, attributes := #[] }, { accessFlags := 25, nameIndex := 361, descriptorIndex := 339, attributes := #[] }, { accessFlags := 26, nameIndex := 364, descriptorIndex := 339, attributes := #[] }, { accessFlags := 26, nameIndex := 365, descriptorIndex := 339, attributes := #[] }, { accessFlags := 26, nameIndex := 172, descriptorIndex := 173, attributes := #[] }, { accessFlags := 26, nameIndex := 176, descriptorIndex := 173, attributes := #[] }, { accessFlags := 8, nameIndex := 344, descriptorIndex := 339, attributes := #[] }, { accessFlags := 8, nameIndex := 338, descriptorIndex := 339, attributes := #[] }, { accessFlags := 4120, nameIndex := 245, descriptorIndex := 246, attributes := #[] }])
  fields := #[{ name := "E", type := .double, accessFlags := 25, slot := 0, constantValue := 0 }, { name := "PI", type := .double, accessFlags := 25, slot := 1, constantValue := 0 }, { name := "TAU", type := .double, accessFlags := 25, slot := 2, constantValue := 0 }, { name := "DEGREES_TO_RADIANS", type := .double, accessFlags := 26, slot := 3, constantValue := 0 }, { name := "RADIANS_TO_DEGREES", type := .double, accessFlags := 26, slot := 4, constantValue := 0 }, { name := "negativeZeroFloatBits", type := .long, accessFlags := 26, slot := 5, constantValue := 0 }, { name := "negativeZeroDoubleBits", type := .long, accessFlags := 26, slot := 6, constantValue := 0 }, { name := "twoToTheDoubleScaleUp", type := .double, accessFlags := 8, slot := 7, constantValue := 0 }, { name := "twoToTheDoubleScaleDown", type := .double, accessFlags := 8, slot := 8, constantValue := 0 }, { name := "$assertionsDisabled", type := .boolean, accessFlags := 4120, slot := 9, constantValue := 0 }]
  methods := #[k2m0, k2m1, k2m2]
  instanceTypes := #[]
  staticTypes := #[.double, .double, .double, .double, .double, .long, .long, .double, .double, .boolean]
  resolved := Array.replicate 460 none
  statics := none }

def pool3 : Array CpInfo := pool [(1, .methodref 2 3), (0, .class_ 4), (0, .nameAndType 5 6), (0, u "java/lang/Object"), (0, u "<init>"), (0, u "()V"), (14, .class_ 22), (0, u "com/example/portunus/portunus/RateLimiterConfig"), (0, .long 9223372036854), (4, .fieldref 21 29), (0, .nameAndType 30 31), (0, u "maxRequests"), (0, u "I"), (0, .fieldref 21 33), (0, .nameAndType 34 35), (0, u "timeWindowMillis"), (0, u "J"), (0, .fieldref 21 37), (0, .nameAndType 38 39), (0, u "type"), (0, u "Lcom/example/portunus/portunus/RateLimiterType;"), (0, .long 1000000), (1, u "NANOS_PER_MILLI"), (1, u "(IJLcom/example/portunus/portunus/RateLimiterType;)V"), (5, u "getMaxRequests"), (0, u "()I"), (1, u "()J"), (0, u "getTimeWindowNanos")] 23

def k3c0 : Code := { maxStack := 4, maxLocals := 5, code := prog_22_method_1_code, exceptionTable := #[], attributes := #[] }
def k3m0 : Method := { name := "<init>", desc := "(IJLcom/example/portunus/portunus/RateLimiterType;)V", sig := { parameters := [.int, .long, (.object "com/example/portunus/portunus/RateLimiterType")], returnType := none }, accessFlags := 1, code := some k3c0 }
def k3c1 : Code := { maxStack := 1, maxLocals := 1, code := prog_22_method_2_code, exceptionTable := #[], attributes := #[] }
def k3m1 : Method := { name := "getMaxRequests", desc := "()I", sig := { parameters := [], returnType := some .int }, accessFlags := 1, code := some k3c1 }
def k3c2 : Code := { maxStack := 4, maxLocals := 1, code := prog_22_method_4_code, exceptionTable := #[], attributes := #[] }
def k3m2 : Method := { name := "getTimeWindowNanos", desc := "()J", sig := { parameters := [], returnType := some .long }, accessFlags := 0, code := some k3c2 }
/-- com/example/portunus/portunus/RateLimiterConfig -/
def k3 : Class := { plain "com/example/portunus/portunus/RateLimiterConfig" (some 0) with
  accessFlags := 33
  interfaces := #[]
  cf := some (fileOf pool3 21 #[] #[{ accessFlags := 1, nameIndex := 5, descriptorIndex := 44, attributes := #[] }, { accessFlags := 1, nameIndex := 50, descriptorIndex := 51, attributes := #[] }, { accessFlags := 0, nameIndex := 54, descriptorIndex := 53, attributes := #[] }] 33 2 #[] #[{ accessFlags := 26, nameIndex := 42, descriptorIndex := 35, attributes := #[] }, { accessFlags := 18, nameIndex := 30, descriptorIndex := 31, attributes := #[] }, { accessFlags := 18, nameIndex := 34, descriptorIndex := 35, attributes := #[] }, { accessFlags := 18, nameIndex := 38, descriptorIndex := 39, attributes := #[] }])
  fields := #[{ name := "NANOS_PER_MILLI", type := .long, accessFlags := 26, slot := 0, constantValue := 0 }, { name := "maxRequests", type := .int, accessFlags := 18, slot := 0, constantValue := 0 }, { name := "timeWindowMillis", type := .long, accessFlags := 18, slot := 1, constantValue := 0 }, { name := "type", type := (.object "com/example/portunus/portunus/RateLimiterType"), accessFlags := 18, slot := 2, constantValue := 0 }]
  methods := #[k3m0, k3m1, k3m2]
  instanceTypes := #[.int, .long, (.object "com/example/portunus/portunus/RateLimiterType")]
  staticTypes := #[.long]
  resolved := Array.replicate 78 none
  statics := none }

def pool4 : Array CpInfo := pool [(1, .class_ 2), (0, u "java/lang/constant/Constable"), (0, .class_ 4), (0, u "java/lang/Object")] 6

/-- java/lang/constant/Constable -/
def k4 : Class := { plain "java/lang/constant/Constable" (some 0) with
  accessFlags := 1537
  interfaces := #[]
  cf := some (fileOf pool4 1 #[] #[] 1537 3 #[] #[])
  fields := #[]
  methods := #[]
  instanceTypes := #[]
  staticTypes := #[]
  resolved := Array.replicate 11 none
  statics := none }

def pool5 : Array CpInfo := pool [(1, .class_ 2), (0, u "java/lang/Comparable"), (0, .class_ 4), (0, u "java/lang/Object")] 7

/-- java/lang/Comparable -/
def k5 : Class := { plain "java/lang/Comparable" (some 0) with
  accessFlags := 1537
  interfaces := #[]
  cf := some (fileOf pool5 1 #[] #[] 1537 3 #[] #[])
  fields := #[]
  methods := #[]
  instanceTypes := #[]
  staticTypes := #[]
  resolved := Array.replicate 12 none
  statics := none }

def pool6 : Array CpInfo := pool [(1, .class_ 2), (0, u "java/io/Serializable"), (0, .class_ 4), (0, u "java/lang/Object")] 2

/-- java/io/Serializable -/
def k6 : Class := { plain "java/io/Serializable" (some 0) with
  accessFlags := 1537
  interfaces := #[]
  cf := some (fileOf pool6 1 #[] #[] 1537 3 #[] #[])
  fields := #[]
  methods := #[]
  instanceTypes := #[]
  staticTypes := #[]
  resolved := Array.replicate 7 none
  statics := none }

def pool7 : Array CpInfo := pool [(2, .class_ 4), (1, u "java/lang/Enum"), (0, u "name"), (0, u "Ljava/lang/String;"), (2, u "ordinal"), (0, u "I"), (1, .class_ 14), (1, u "java/lang/Object"), (4, u "hash"), (86, .class_ 108), (1, u "java/lang/Enum$EnumDesc"), (2, .class_ 112), (0, u "java/lang/constant/Constable"), (0, .class_ 114), (0, u "java/lang/Comparable"), (0, .class_ 116), (0, u "java/io/Serializable")] 87

/-- java/lang/Enum -/
def k7 : Class := { plain "java/lang/Enum" (some 0) with
  accessFlags := 1057
  interfaces := #[4, 5, 6]
  cf := some (fileOf pool7 2 #[.nestMembers #[106]] #[] 1057 12 #[111, 113, 115] #[{ accessFlags := 18, nameIndex := 5, descriptorIndex := 6, attributes := #[] }, { accessFlags := 18, nameIndex := 9, descriptorIndex := 10, attributes := #[] }, { accessFlags := 2, nameIndex := 19, descriptorIndex := 10, attributes := #[] }])
  fields := #[{ name := "name", type := (.object "java/lang/String"), accessFlags := 18, slot := 0, constantValue := 0 }, { name := "ordinal", type := .int, accessFlags := 18, slot := 1, constantValue := 0 }, { name := "hash", type := .int, accessFlags := 2, slot := 2, constantValue := 0 }]
  methods := #[]
  instanceTypes := #[(.object "java/lang/String"), .int, .int]
  staticTypes := #[]
  resolved := Array.replicate 204 none
  statics := none }

def pool8 : Array CpInfo := pool [(1, .class_ 2), (0, u "com/example/portunus/portunus/RateLimiterType"), (2, u "TOKEN_BUCKET"), (0, u "Lcom/example/portunus/portunus/RateLimiterType;"), (2, u "LEAKY_BUCKET"), (2, u "FIXED_WINDOW"), (2, u "SLIDING_WINDOW_LOG"), (2, u "SLIDING_WINDOW_COUNTER"), (2, u "$VALUES"), (0, u "[Lcom/example/portunus/portunus/RateLimiterType;"), (6, .class_ 31), (1, u "java/lang/Enum")] 27

/-- com/example/portunus/portunus/RateLimiterType -/
def k8 : Class := { plain "com/example/portunus/portunus/RateLimiterType" (some 7) with
  accessFlags := 16433
  interfaces := #[]
  cf := some (fileOf pool8 1 #[] #[] 16433 29 #[] #[{ accessFlags := 16409, nameIndex := 5, descriptorIndex := 6, attributes := #[] }, { accessFlags := 16409, nameIndex := 9, descriptorIndex := 6, attributes := #[] }, { accessFlags := 16409, nameIndex := 12, descriptorIndex := 6, attributes := #[] }, { accessFlags := 16409, nameIndex := 15, descriptorIndex := 6, attributes := #[] }, { accessFlags := 16409, nameIndex := 18, descriptorIndex := 6, attributes := #[] }, { accessFlags := 4122, nameIndex := 21, descriptorIndex := 22, attributes := #[] }])
  fields := #[{ name := "TOKEN_BUCKET", type := (.object "com/example/portunus/portunus/RateLimiterType"), accessFlags := 16409, slot := 0, constantValue := 0 }, { name := "LEAKY_BUCKET", type := (.object "com/example/portunus/portunus/RateLimiterType"), accessFlags := 16409, slot := 1, constantValue := 0 }, { name := "FIXED_WINDOW", type := (.object "com/example/portunus/portunus/RateLimiterType"), accessFlags := 16409, slot := 2, constantValue := 0 }, { name := "SLIDING_WINDOW_LOG", type := (.object "com/example/portunus/portunus/RateLimiterType"), accessFlags := 16409, slot := 3, constantValue := 0 }, { name := "SLIDING_WINDOW_COUNTER", type := (.object "com/example/portunus/portunus/RateLimiterType"), accessFlags := 16409, slot := 4, constantValue := 0 }, { name := "$VALUES", type := (.array (.object "com/example/portunus/portunus/RateLimiterType")), accessFlags := 4122, slot := 5, constantValue := 0 }]
  methods := #[]
  instanceTypes := #[(.object "java/lang/String"), .int, .int]
  staticTypes := #[(.object "com/example/portunus/portunus/RateLimiterType"), (.object "com/example/portunus/portunus/RateLimiterType"), (.object "com/example/portunus/portunus/RateLimiterType"), (.object "com/example/portunus/portunus/RateLimiterType"), (.object "com/example/portunus/portunus/RateLimiterType"), (.array (.object "com/example/portunus/portunus/RateLimiterType"))]
  resolved := Array.replicate 59 none
  statics := some 0 }

def pool9 : Array CpInfo := pool [(1, .methodref 2 3), (0, .class_ 4), (0, .nameAndType 5 6), (0, u "java/lang/Object"), (0, u "<init>"), (0, u "()V"), (0, .methodref 8 9), (0, .class_ 10), (0, .nameAndType 11 12), (0, u "com/example/portunus/portunus/RateLimiterConfig"), (0, u "getMaxRequests"), (0, u "()I"), (0, .fieldref 14 15), (0, .class_ 16), (0, .nameAndType 17 18), (0, u "com/example/portunus/portunus/Periods"), (0, u "maxRequests"), (0, u "I"), (0, .methodref 8 20), (0, .nameAndType 21 22), (0, u "getTimeWindowNanos"), (0, u "()J"), (0, .fieldref 14 24), (0, .nameAndType 25 26), (0, u "windowNanos"), (0, u "J"), (0, .fieldref 14 28), (0, .nameAndType 29 26), (0, u "periodNanos"), (0, .fieldref 14 31), (0, .nameAndType 32 26), (0, u "periodFraction"), (0, .fieldref 14 34), (0, .nameAndType 35 36), (0, u "periodForGuesses"), (0, u "D"), (0, .fieldref 14 38), (0, .nameAndType 39 26), (0, u "roomMarkNanos"), (0, .fieldref 14 41), (0, .nameAndType 42 26), (0, u "roomMarkFraction"), (0, .fieldref 44 45), (0, .class_ 46), (0, .nameAndType 47 26), (0, u "com/example/portunus/portunus/Periods$Debt"), (0, u "nanos"), (0, .fieldref 44 49), (0, .nameAndType 50 18), (0, u "fraction"), (13, u "(Lcom/example/portunus/portunus/RateLimiterConfig;)V"), (5, u "addPeriod"), (0, u "(Lcom/example/portunus/portunus/Periods$Debt;)V")] 7

def k9c0 : Code := { maxStack := 5, maxLocals := 2, code := prog_15_method_1_code, exceptionTable := #[], attributes := #[] }
def k9m0 : Method := { name := "<init>", desc := "(Lcom/example/portunus/portunus/RateLimiterConfig;)V", sig := { parameters := [(.object "com/example/portunus/portunus/RateLimiterConfig")], returnType := none }, accessFlags := 0, code := some k9c0 }
def k9c1 : Code := { maxStack := 9, maxLocals := 4, code := prog_15_method_3_code, exceptionTable := #[], attributes := #[] }
def k9m1 : Method := { name := "addPeriod", desc := "(Lcom/example/portunus/portunus/Periods$Debt;)V", sig := { parameters := [(.object "com/example/portunus/portunus/Periods$Debt")], returnType := none }, accessFlags := 0, code := some k9c1 }
/-- com/example/portunus/portunus/Periods -/
def k9 : Class := { plain "com/example/portunus/portunus/Periods" (some 0) with
  accessFlags := 32
  interfaces := #[]
  cf := some (fileOf pool9 14 #[.nestMembers #[44]] #[{ accessFlags := 0, nameIndex := 5, descriptorIndex := 64, attributes := #[] }, { accessFlags := 0, nameIndex := 70, descriptorIndex := 71, attributes := #[] }] 32 2 #[] #[{ accessFlags := 18, nameIndex := 17, descriptorIndex := 18, attributes := #[] }, { accessFlags := 18, nameIndex := 25, descriptorIndex := 26, attributes := #[] }, { accessFlags := 18, nameIndex := 29, descriptorIndex := 26, attributes := #[] }, { accessFlags := 18, nameIndex := 32, descriptorIndex := 26, attributes := #[] }, { accessFlags := 18, nameIndex := 35, descriptorIndex := 36, attributes := #[] }, { accessFlags := 18, nameIndex := 39, descriptorIndex := 26, attributes := #[] }, { accessFlags := 18, nameIndex := 42, descriptorIndex := 26, attributes := #[] }])
  fields := #[{ name := "maxRequests", type := .int, accessFlags := 18, slot := 0, constantValue := 0 }, { name := "windowNanos", type := .long, accessFlags := 18, slot := 1, constantValue := 0 }, { name := "periodNanos", type := .long, accessFlags := 18, slot := 2, constantValue := 0 }, { name := "periodFraction", type := .long, accessFlags := 18, slot := 3, constantValue := 0 }, { name := "periodForGuesses", type := .double, accessFlags := 18, slot := 4, constantValue := 0 }, { name := "roomMarkNanos", type := .long, accessFlags := 18, slot := 5, constantValue := 0 }, { name := "roomMarkFraction", type := .long, accessFlags := 18, slot := 6, constantValue := 0 }]
  methods := #[k9m0, k9m1]
  instanceTypes := #[.int, .long, .long, .long, .double, .long, .long]
  staticTypes := #[]
  resolved := ((Array.replicate 79 none).setIfInBounds 43 (some (.field 10 1))).setIfInBounds 48 (some (.field 10 2))
  statics := none }

def pool10 : Array CpInfo := pool [(1, .methodref 2 3), (0, .class_ 4), (0, .nameAndType 5 6), (0, u "java/lang/Object"), (0, u "<init>"), (0, u "()V"), (0, .fieldref 8 9), (0, .class_ 10), (0, .nameAndType 11 12), (0, u "com/example/portunus/portunus/Periods$Debt"), (0, u "time"), (0, u "J"), (0, .fieldref 8 14), (0, .nameAndType 15 12), (0, u "nanos"), (0, .methodref 17 18), (0, .class_ 19), (0, .nameAndType 20 21), (0, u "java/lang/Long"), (0, u "compareUnsigned"), (0, u "(JJ)I"), (0, .fieldref 8 23), (0, .nameAndType 24 25), (0, u "fraction"), (0, u "I"), (0, u "(J)V"), (2, u "payOff"), (3, u "roundedUp"), (0, u "()J"), (3, .class_ 39), (0, u "com/example/portunus/portunus/Periods")] 2

def k10c0 : Code := { maxStack := 3, maxLocals := 3, code := prog_16_method_1_code, exceptionTable := #[], attributes := #[] }
def k10m0 : Method := { name := "<init>", desc := "(J)V", sig := { parameters := [.long], returnType := none }, accessFlags := 0, code := some k10c0 }
def k10c1 : Code := { maxStack := 5, maxLocals := 5, code := prog_16_method_2_code, exceptionTable := #[], attributes := #[] }
def k10m1 : Method := { name := "payOff", desc := "(J)V", sig := { parameters := [.long], returnType := none }, accessFlags := 0, code := some k10c1 }
def k10c2 : Code := { maxStack := 4, maxLocals := 1, code := prog_16_method_4_code, exceptionTable := #[], attributes := #[] }
def k10m2 : Method := { name := "roundedUp", desc := "()J", sig := { parameters := [], returnType := some .long }, accessFlags := 0, code := some k10c2 }
/-- com/example/portunus/portunus/Periods$Debt -/
def k10 : Class := { plain "com/example/portunus/portunus/Periods$Debt" (some 0) with
  accessFlags := 32
  interfaces := #[]
  cf := some (fileOf pool10 8 #[.nestHost 38] #[{ accessFlags := 0, nameIndex := 5, descriptorIndex := 26, attributes := #[] }, { accessFlags := 0, nameIndex := 29, descriptorIndex := 26, attributes := #[] }, { accessFlags := 0, nameIndex := 33, descriptorIndex := 34, attributes := #[] }] 32 2 #[] #[{ accessFlags := 2, nameIndex := 11, descriptorIndex := 12, attributes := #[] }, { accessFlags := 2, nameIndex := 15, descriptorIndex := 12, attributes := #[] }, { accessFlags := 2, nameIndex := 24, descriptorIndex := 25, attributes := #[] }])
  fields := #[{ name := "time", type := .long, accessFlags := 2, slot := 0, constantValue := 0 }, { name := "nanos", type := .long, accessFlags := 2, slot := 1, constantValue := 0 }, { name := "fraction", type := .int, accessFlags := 2, slot := 2, constantValue := 0 }]
  methods := #[k10m0, k10m1, k10m2]
  instanceTypes := #[.long, .long, .int]
  staticTypes := #[]
  resolved := Array.replicate 42 none
  statics := none }

def pool11 : Array CpInfo := pool [(2, .class_ 4), (1, u "java/lang/Object"), (0, u "<init>"), (0, u "()V"), (1, .class_ 10), (1, u "java/lang/Number"), (2, .class_ 14), (0, u "java/io/Serializable"), (0, u "serialVersionUID"), (0, u "J")] 20

def k11m0 : Method := { name := "<init>", desc := "()V", sig := { parameters := [], returnType := none }, accessFlags := 1, code := none }
/-- java/lang/Number -/
def k11 : Class := { plain "java/lang/Number" (some 0) with
  accessFlags := 1057
  interfaces := #[6]
  cf := some (fileOf pool11 8 #[] #[{ accessFlags := 1, nameIndex := 5, descriptorIndex := 6, attributes := #[] }] 1057 2 #[13] #[{ accessFlags := 26, nameIndex := 15, descriptorIndex := 16, attributes := #[] }])
  fields := #[{ name := "serialVersionUID", type := .long, accessFlags := 26, slot := 0, constantValue := 0 }]
  methods := #[k11m0]
  instanceTypes := #[]
  staticTypes := #[.long]
  resolved := Array.replicate 37 none
  statics := none }

def pool12 : Array CpInfo := pool [(1, .class_ 2), (0, u "java/lang/constant/ConstantDesc"), (0, .class_ 4), (0, u "java/lang/Object")] 32

/-- java/lang/constant/ConstantDesc -/
def k12 : Class := { plain "java/lang/constant/ConstantDesc" (some 0) with
  accessFlags := 1537
  interfaces := #[]
  cf := some (fileOf pool12 1 #[] #[] 1537 3 #[] #[])
  fields := #[]
  methods := #[]
  instanceTypes := #[]
  staticTypes := #[]
  resolved := Array.replicate 37 none
  statics := none }

def pool13 : Array CpInfo := pool [(1, .class_ 2), (0, u "java/lang/Long"), (165, .long 9223372036854775808), (66, .class_ 237), (1, u "java/lang/Long$LongCache"), (33, .class_ 272), (0, u "java/lang/Number"), (2, u "value"), (0, u "J"), (25, .methodref 1 303), (0, .nameAndType 304 305), (0, u "compare"), (0, u "(JJ)I"), (55, u "TYPE"), (0, u "Ljava/lang/Class;"), (0, .class_ 364), (0, u "java/lang/Comparable"), (0, .class_ 366), (0, u "java/lang/constant/Constable"), (0, .class_ 368), (0, u "java/lang/constant/ConstantDesc"), (0, u "MIN_VALUE"), (1, u "MAX_VALUE"), (4, u "SIZE"), (0, u "I"), (1, u "BYTES"), (1, u "serialVersionUID"), (87, u "compareUnsigned")] 54

def k13c0 : Code := { maxStack := 4, maxLocals := 4, code := jdk_35_method_42_code, exceptionTable := #[], attributes := #[] }
def k13m0 : Method := { name := "compare", desc := "(JJ)I", sig := { parameters := [.long, .long], returnType := some .int }, accessFlags := 9, code := some k13c0 }
def k13c1 : Code := { maxStack := 6, maxLocals := 4, code := jdk_35_method_43_code, exceptionTable := #[], attributes := #[] }
def k13m1 : Method := { name := "compareUnsigned", desc := "(JJ)I", sig := { parameters := [.long, .long], returnType := some .int }, accessFlags := 9, code := some k13c1 }
/-- java/lang/Long -/
def k13 : Class := { plain "java/lang/Long" (some 11) with
  accessFlags := 49
  interfaces := #[5, 4, 12]
  cf := some (fileOf pool13 1 #[.nestMembers #[235]] #[{ accessFlags := 9, nameIndex := 304, descriptorIndex := 305, attributes := #[] }, { accessFlags := 9, nameIndex := 469, descriptorIndex := 305, attributes := #[] }] 49 271 #[363, 365, 367] #[{ accessFlags := 25, nameIndex := 369, descriptorIndex := 276, attributes := #[] }, { accessFlags := 25, nameIndex := 371, descriptorIndex := 276, attributes := #[] }, { accessFlags := 25, nameIndex := 361, descriptorIndex := 362, attributes := #[] }, { accessFlags := 18, nameIndex := 275, descriptorIndex := 276, attributes := #[] }, { accessFlags := 25, nameIndex := 376, descriptorIndex := 377, attributes := #[] }, { accessFlags := 25, nameIndex := 379, descriptorIndex := 377, attributes := #[] }, { accessFlags := 26, nameIndex := 381, descriptorIndex := 276, attributes := #[] }])
  fields := #[{ name := "MIN_VALUE", type := .long, accessFlags := 25, slot := 0, constantValue := 0 }, { name := "MAX_VALUE", type := .long, accessFlags := 25, slot := 1, constantValue := 0 }, { name := "TYPE", type := (.object "java/lang/Class"), accessFlags := 25, slot := 2, constantValue := 0 }, { name := "value", type := .long, accessFlags := 18, slot := 0, constantValue := 0 }, { name := "SIZE", type := .int, accessFlags := 25, slot := 3, constantValue := 0 }, { name := "BYTES", type := .int, accessFlags := 25, slot := 4, constantValue := 0 }, { name := "serialVersionUID", type := .long, accessFlags := 26, slot := 5, constantValue := 0 }]
  methods := #[k13m0, k13m1]
  instanceTypes := #[.long]
  staticTypes := #[.long, .long, (.object "java/lang/Class"), .int, .int, .long]
  resolved := Array.replicate 524 none
  statics := none }

def pool14 : Array CpInfo := pool [(1, u "java/lang/Cloneable"), (0, .class_ 1), (0, u "java/lang/Object"), (0, .class_ 3)] 3

/-- java/lang/Cloneable -/
def k14 : Class := { plain "java/lang/Cloneable" (some 0) with
  accessFlags := 1537
  interfaces := #[]
  cf := some (fileOf pool14 2 #[] #[] 1537 4 #[] #[])
  fields := #[]
  methods := #[]
  instanceTypes := #[]
  staticTypes := #[]
  resolved := Array.replicate 8 none
  statics := none }

/-- the primitive byte -/
def k15 : Class := { plain "byte" none with kind := .primitive 'B', accessFlags := 0x411 }
/-- [B -/
def k16 : Class := { plain "[B" (some 0) with kind := .array 15 .byte, interfaces := #[14, 6], accessFlags := 1041 }

/-- the primitive int -/
def k17 : Class := { plain "int" none with kind := .primitive 'I', accessFlags := 0x411 }
/-- [I -/
def k18 : Class := { plain "[I" (some 0) with kind := .array 17 .int, interfaces := #[14, 6], accessFlags := 1041 }

def heap : Heap := #[{ cls := 8, slots := #[.ref 1, .null, .null, .null, .null, .null], vm := .statics 8 },
  { cls := 8, slots := #[.null, .int 0, .int 0], vm := .none }]
def classes : Array Class := #[k0, k1, k2, k3, k4, k5, k6, k7, k8, k9, k10, k11, k12, k13, k14, k15, k16, k17, k18]
def interned : List (Array UInt16 × Addr) := []
def slotsUsed : Nat := 9
def theMethod : MethodId := ⟨1, 1⟩
def args0 : Array Value := #[.int 5, .long 5, .long 5, .long 5]
def aboutOver (below : List Frame) : State where
  vm := { classes := classes, interned := interned.toArray }
  heap := heap
  slotsUsed := slotsUsed
  threads := #[{ frames := .invoking theMethod args0 :: below }]
def below0 : List Frame := [.native { method := ⟨0, 0⟩, args := #[] }]
def about1 : State := aboutOver below0
def p0 : Program := .bare "" "" ""
def e0 : Env := launch0.env 0 0 0
theorem w_frames : about1.frames = Frame.invoking theMethod args0 :: below0 := rfl
set_option maxRecDepth 65536 in
theorem w_args : argsFit about1.vm theMethod args0 = true := by decide +kernel
set_option maxRecDepth 65536 in
theorem w_heap : heapFits about1 = true := by decide +kernel
set_option maxRecDepth 65536 in
theorem w_runnable : about1.curStatus? = some .runnable := by decide +kernel
set_option maxRecDepth 65536 in
theorem w_alone : about1.alone = true := by decide +kernel
set_option maxRecDepth 65536 in
theorem w_named : about1.methodNamed? x = some theMethod := by decide +kernel
set_option maxRecDepth 65536 in
theorem w_hears : about1.hears theMethod below0 = true := by decide +kernel
set_option maxRecDepth 65536 in
theorem w_ripe : about1.ripe theMethod args0 below0 = true := by decide +kernel
theorem w_running : about1.status = .running := rfl
set_option maxRecDepth 65536 in
theorem w_room : about1.hasRoom e0.platform room_1 = true :=
  launch0.hasRoom_least _ room_1 (by decide +kernel) (by decide +kernel) (by decide +kernel) (by decide +kernel) (by decide +kernel) (by decide +kernel)
theorem allAtoms_all (ts : List Jvm.Cond) (a : Array Jvm.Value) (st : Jvm.State) : (allAtoms ts).before a st = ts.all (fun c => c.before a st) := by
  induction ts with
  | nil => rfl
  | cons c t ih =>
    show (Jvm.Cond.and c (allAtoms t)).before a st = _
    rw [Jvm.Cond.before_and, ih, List.all_cons]
def words1 : List Jvm.Cond := Jvm.Cond.code x code maxLocals ret :: tables_1
/-- a 'code' word, met by the world's own term for the bytes: nothing is compared byte by byte -/
theorem code_word {y : MethodName} {bytes : ByteArray} {mx : Nat} {rt : Option FieldType} {a : Array Value} {s : State} {m : MethodId} {meth : Method} {c : Code} (h1 : s.methodNamed? y = some m) (h2 : s.vm.method? m = some meth) (h3 : meth.code = some c) (h4 : c.code = bytes)
    (h5 : (c.maxLocals == mx && c.exceptionTable.isEmpty && decide (c.maxStack ≤ mostOperands) && decide (meth.sig.returnType = rt) && !meth.locks && decide (parseMethodDescriptor y.desc = some meth.sig)) = true) : (Jvm.Cond.code y bytes mx rt).before a s = true := by
  simp only [Bool.and_eq_true, beq_iff_eq, Bool.not_eq_true', decide_eq_true_eq] at h5
  obtain ⟨⟨⟨⟨⟨g1, g2⟩, g3⟩, g4⟩, g5⟩, g6⟩ := h5
  simp [Cond.before, Cond.holds, Cond.value, h1, h2, h3, h4, g1, g2, g3, g4, g5, g6]
def isCode : Jvm.Cond → Bool
  | .code _ _ _ _ => true
  | _ => false
theorem all_split {L : List Jvm.Cond} {P : Jvm.Cond → Bool} (h1 : L.all (fun c => isCode c || P c) = true) (h2 : ∀ c ∈ L.filter isCode, P c = true) : L.all P = true := by
  refine List.all_eq_true.mpr fun c hc => ?_
  have h := List.all_eq_true.mp h1 c hc
  rcases Bool.eq_false_or_eq_true (isCode c) with hi | hi
  · exact h2 c (List.mem_filter.mpr ⟨hc, hi⟩)
  · simpa [hi] using h
set_option maxRecDepth 65536 in
theorem w_c0 : (Jvm.Cond.code x code maxLocals ret).before args0 about1 = true := code_word (m := ⟨1, 1⟩) (meth := k1m1) (c := k1c1) (by decide +kernel) rfl rfl rfl (by decide +kernel)
set_option maxRecDepth 65536 in
theorem w_c1 : (Jvm.Cond.code ({ cls := "java/lang/Math", name := "max", desc := "(II)I" } : Jvm.MethodName) jdk_29_method_65_code (2 : Nat) (Option.some Jvm.ClassFile.FieldType.int)).before args0 about1 = true := code_word (m := ⟨2, 1⟩) (meth := k2m1) (c := k2c1) (by decide +kernel) rfl rfl rfl (by decide +kernel)
set_option maxRecDepth 65536 in
theorem w_c2 : (Jvm.Cond.code ({ cls := "java/lang/Math", name := "min", desc := "(JJ)J" } : Jvm.MethodName) jdk_29_method_70_code (4 : Nat) (Option.some Jvm.ClassFile.FieldType.long)).before args0 about1 = true := code_word (m := ⟨2, 2⟩) (meth := k2m2) (c := k2c2) (by decide +kernel) rfl rfl rfl (by decide +kernel)
set_option maxRecDepth 65536 in
theorem w_c3 : (Jvm.Cond.code ({ cls := "com/example/portunus/portunus/RateLimiterConfig", name := "<init>", desc := "(IJLcom/example/portunus/portunus/RateLimiterType;)V" } : Jvm.MethodName) prog_22_method_1_code (5 : Nat) (Option.none : Option Jvm.ClassFile.FieldType)).before args0 about1 = true := code_word (m := ⟨3, 0⟩) (meth := k3m0) (c := k3c0) (by decide +kernel) rfl rfl rfl (by decide +kernel)
set_option maxRecDepth 65536 in
theorem w_c4 : (Jvm.Cond.code ({ cls := "java/lang/Object", name := "<init>", desc := "()V" } : Jvm.MethodName) object_method_1_code (1 : Nat) (Option.none : Option Jvm.ClassFile.FieldType)).before args0 about1 = true := code_word (m := ⟨0, 0⟩) (meth := k0m0) (c := k0c0) (by decide +kernel) rfl rfl rfl (by decide +kernel)
set_option maxRecDepth 65536 in
theorem w_c5 : (Jvm.Cond.code ({ cls := "com/example/portunus/portunus/Periods", name := "<init>", desc := "(Lcom/example/portunus/portunus/RateLimiterConfig;)V" } : Jvm.MethodName) prog_15_method_1_code (2 : Nat) (Option.none : Option Jvm.ClassFile.FieldType)).before args0 about1 = true := code_word (m := ⟨9, 0⟩) (meth := k9m0) (c := k9c0) (by decide +kernel) rfl rfl rfl (by decide +kernel)
set_option maxRecDepth 65536 in
theorem w_c6 : (Jvm.Cond.code ({ cls := "com/example/portunus/portunus/RateLimiterConfig", name := "getMaxRequests", desc := "()I" } : Jvm.MethodName) prog_22_method_2_code (1 : Nat) (Option.some Jvm.ClassFile.FieldType.int)).before args0 about1 = true := code_word (m := ⟨3, 1⟩) (meth := k3m1) (c := k3c1) (by decide +kernel) rfl rfl rfl (by decide +kernel)
set_option maxRecDepth 65536 in
theorem w_c7 : (Jvm.Cond.code ({ cls := "com/example/portunus/portunus/RateLimiterConfig", name := "getTimeWindowNanos", desc := "()J" } : Jvm.MethodName) prog_22_method_4_code (1 : Nat) (Option.some Jvm.ClassFile.FieldType.long)).before args0 about1 = true := code_word (m := ⟨3, 2⟩) (meth := k3m2) (c := k3c2) (by decide +kernel) rfl rfl rfl (by decide +kernel)
set_option maxRecDepth 65536 in
theorem w_c8 : (Jvm.Cond.code ({ cls := "com/example/portunus/portunus/Periods$Debt", name := "<init>", desc := "(J)V" } : Jvm.MethodName) prog_16_method_1_code (3 : Nat) (Option.none : Option Jvm.ClassFile.FieldType)).before args0 about1 = true := code_word (m := ⟨10, 0⟩) (meth := k10m0) (c := k10c0) (by decide +kernel) rfl rfl rfl (by decide +kernel)
set_option maxRecDepth 65536 in
theorem w_c9 : (Jvm.Cond.code ({ cls := "com/example/portunus/portunus/Periods", name := "addPeriod", desc := "(Lcom/example/portunus/portunus/Periods$Debt;)V" } : Jvm.MethodName) prog_15_method_3_code (4 : Nat) (Option.none : Option Jvm.ClassFile.FieldType)).before args0 about1 = true := code_word (m := ⟨9, 1⟩) (meth := k9m1) (c := k9c1) (by decide +kernel) rfl rfl rfl (by decide +kernel)
set_option maxRecDepth 65536 in
theorem w_c10 : (Jvm.Cond.code ({ cls := "com/example/portunus/portunus/Periods$Debt", name := "roundedUp", desc := "()J" } : Jvm.MethodName) prog_16_method_4_code (1 : Nat) (Option.some Jvm.ClassFile.FieldType.long)).before args0 about1 = true := code_word (m := ⟨10, 2⟩) (meth := k10m2) (c := k10c2) (by decide +kernel) rfl rfl rfl (by decide +kernel)
set_option maxRecDepth 65536 in
theorem w_c11 : (Jvm.Cond.code ({ cls := "com/example/portunus/portunus/PeriodsAddPeriodPinLaw", name := "ceilOfPeriods", desc := "(JJJJ)J" } : Jvm.MethodName) method_3_code (10 : Nat) (Option.some Jvm.ClassFile.FieldType.long)).before args0 about1 = true := code_word (m := ⟨1, 2⟩) (meth := k1m2) (c := k1c2) (by decide +kernel) rfl rfl rfl (by decide +kernel)
set_option maxRecDepth 65536 in
theorem w_c12 : (Jvm.Cond.code ({ cls := "com/example/portunus/portunus/Periods$Debt", name := "payOff", desc := "(J)V" } : Jvm.MethodName) prog_16_method_2_code (5 : Nat) (Option.none : Option Jvm.ClassFile.FieldType)).before args0 about1 = true := code_word (m := ⟨10, 1⟩) (meth := k10m1) (c := k10c1) (by decide +kernel) rfl rfl rfl (by decide +kernel)
set_option maxRecDepth 65536 in
theorem w_c13 : (Jvm.Cond.code ({ cls := "java/lang/Long", name := "compareUnsigned", desc := "(JJ)I" } : Jvm.MethodName) jdk_35_method_43_code (4 : Nat) (Option.some Jvm.ClassFile.FieldType.int)).before args0 about1 = true := code_word (m := ⟨13, 1⟩) (meth := k13m1) (c := k13c1) (by decide +kernel) rfl rfl rfl (by decide +kernel)
set_option maxRecDepth 65536 in
theorem w_c14 : (Jvm.Cond.code ({ cls := "java/lang/Long", name := "compare", desc := "(JJ)I" } : Jvm.MethodName) jdk_35_method_42_code (4 : Nat) (Option.some Jvm.ClassFile.FieldType.int)).before args0 about1 = true := code_word (m := ⟨13, 0⟩) (meth := k13m0) (c := k13c0) (by decide +kernel) rfl rfl rfl (by decide +kernel)
def codes1 : List Jvm.Cond := [Jvm.Cond.code x code maxLocals ret, Jvm.Cond.code ({ cls := "java/lang/Math", name := "max", desc := "(II)I" } : Jvm.MethodName) jdk_29_method_65_code (2 : Nat) (Option.some Jvm.ClassFile.FieldType.int), Jvm.Cond.code ({ cls := "java/lang/Math", name := "min", desc := "(JJ)J" } : Jvm.MethodName) jdk_29_method_70_code (4 : Nat) (Option.some Jvm.ClassFile.FieldType.long), Jvm.Cond.code ({ cls := "com/example/portunus/portunus/RateLimiterConfig", name := "<init>", desc := "(IJLcom/example/portunus/portunus/RateLimiterType;)V" } : Jvm.MethodName) prog_22_method_1_code (5 : Nat) (Option.none : Option Jvm.ClassFile.FieldType), Jvm.Cond.code ({ cls := "java/lang/Object", name := "<init>", desc := "()V" } : Jvm.MethodName) object_method_1_code (1 : Nat) (Option.none : Option Jvm.ClassFile.FieldType), Jvm.Cond.code ({ cls := "com/example/portunus/portunus/Periods", name := "<init>", desc := "(Lcom/example/portunus/portunus/RateLimiterConfig;)V" } : Jvm.MethodName) prog_15_method_1_code (2 : Nat) (Option.none : Option Jvm.ClassFile.FieldType), Jvm.Cond.code ({ cls := "com/example/portunus/portunus/RateLimiterConfig", name := "getMaxRequests", desc := "()I" } : Jvm.MethodName) prog_22_method_2_code (1 : Nat) (Option.some Jvm.ClassFile.FieldType.int), Jvm.Cond.code ({ cls := "com/example/portunus/portunus/RateLimiterConfig", name := "getTimeWindowNanos", desc := "()J" } : Jvm.MethodName) prog_22_method_4_code (1 : Nat) (Option.some Jvm.ClassFile.FieldType.long), Jvm.Cond.code ({ cls := "com/example/portunus/portunus/Periods$Debt", name := "<init>", desc := "(J)V" } : Jvm.MethodName) prog_16_method_1_code (3 : Nat) (Option.none : Option Jvm.ClassFile.FieldType), Jvm.Cond.code ({ cls := "com/example/portunus/portunus/Periods", name := "addPeriod", desc := "(Lcom/example/portunus/portunus/Periods$Debt;)V" } : Jvm.MethodName) prog_15_method_3_code (4 : Nat) (Option.none : Option Jvm.ClassFile.FieldType), Jvm.Cond.code ({ cls := "com/example/portunus/portunus/Periods$Debt", name := "roundedUp", desc := "()J" } : Jvm.MethodName) prog_16_method_4_code (1 : Nat) (Option.some Jvm.ClassFile.FieldType.long), Jvm.Cond.code ({ cls := "com/example/portunus/portunus/PeriodsAddPeriodPinLaw", name := "ceilOfPeriods", desc := "(JJJJ)J" } : Jvm.MethodName) method_3_code (10 : Nat) (Option.some Jvm.ClassFile.FieldType.long), Jvm.Cond.code ({ cls := "com/example/portunus/portunus/Periods$Debt", name := "payOff", desc := "(J)V" } : Jvm.MethodName) prog_16_method_2_code (5 : Nat) (Option.none : Option Jvm.ClassFile.FieldType), Jvm.Cond.code ({ cls := "java/lang/Long", name := "compareUnsigned", desc := "(JJ)I" } : Jvm.MethodName) jdk_35_method_43_code (4 : Nat) (Option.some Jvm.ClassFile.FieldType.int), Jvm.Cond.code ({ cls := "java/lang/Long", name := "compare", desc := "(JJ)I" } : Jvm.MethodName) jdk_35_method_42_code (4 : Nat) (Option.some Jvm.ClassFile.FieldType.int)]
set_option maxRecDepth 65536 in
theorem codes_eq : words1.filter isCode = codes1 := rfl
theorem w_codes : ∀ c ∈ words1.filter isCode, c.before args0 about1 = true := by
  rw [codes_eq]
  intro c hc
  simp only [codes1, List.mem_cons, List.not_mem_nil, or_false] at hc
  rcases hc with rfl | rfl | rfl | rfl | rfl | rfl | rfl | rfl | rfl | rfl | rfl | rfl | rfl | rfl | rfl
  · exact w_c0
  · exact w_c1
  · exact w_c2
  · exact w_c3
  · exact w_c4
  · exact w_c5
  · exact w_c6
  · exact w_c7
  · exact w_c8
  · exact w_c9
  · exact w_c10
  · exact w_c11
  · exact w_c12
  · exact w_c13
  · exact w_c14
set_option maxRecDepth 65536 in
theorem w_t1 : (words1.take 24).all (fun c => isCode c || c.before args0 about1) = true := by decide +kernel
set_option maxRecDepth 65536 in
theorem w_t2 : ((words1.drop 24).take 24).all (fun c => isCode c || c.before args0 about1) = true := by decide +kernel
set_option maxRecDepth 65536 in
theorem w_t3 : (((words1.drop 24).drop 24).take 24).all (fun c => isCode c || c.before args0 about1) = true := by decide +kernel
set_option maxRecDepth 65536 in
theorem w_t4 : ((((words1.drop 24).drop 24).drop 24).take 24).all (fun c => isCode c || c.before args0 about1) = true := by decide +kernel
set_option maxRecDepth 65536 in
theorem w_t5 : ((((words1.drop 24).drop 24).drop 24).drop 24).all (fun c => isCode c || c.before args0 about1) = true := by decide +kernel
theorem w_tables : (allAtoms (Jvm.Cond.code x code maxLocals ret :: tables_1)).before args0 about1 = true := by
  rw [allAtoms_all]
  show words1.all (fun c => c.before args0 about1) = true
  refine all_split ?_ w_codes
  rw [← List.take_append_drop 24 words1, List.all_append, w_t1, ← List.take_append_drop 24 (words1.drop 24), List.all_append, w_t2, ← List.take_append_drop 24 ((words1.drop 24).drop 24), List.all_append, w_t3, ← List.take_append_drop 24 (((words1.drop 24).drop 24).drop 24), List.all_append, w_t4, w_t5]
  rfl
set_option maxRecDepth 65536 in
theorem w_case : (Jvm.Cond.and given_1 narrow_1).before args0 about1 = true := by decide +kernel
theorem w_applies : (headSpec (Jvm.Cond.code x code maxLocals ret :: tables_1) room_1).applies x e0.platform about1 = true :=
  (Spec.applies_iff w_frames).mpr ⟨w_running, w_runnable, w_alone, w_named, w_hears, w_ripe, w_room, w_tables⟩
theorem atStart : AtStart classFile x code maxLocals ret World_1 tables_1 room_1 Calls_1 rest_1 Pre_1 launch0 p0 e0 about1 theMethod args0 below0 :=
  ⟨lists_1, trivial, launch0.admits_env _ _ _, launch0.least_env, fairChoices_fair.cas, fairChoices_fair.clock, w_frames, w_args, w_heap, w_applies, trivial, trivial, w_case⟩
end start1
theorem witness_1 : WitnessClaimed_1 := ⟨start1.p0, start1.e0, start1.about1, start1.theMethod, start1.args0, start1.below0, start1.atStart⟩
end Jvm.Pilot.@@N@@
