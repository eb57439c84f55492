import JvmDerived
import JvmDerived.Pilot.@@N@@Statement
import JvmDerived.Pilot.@@N@@Code
set_option linter.unusedVariables false
set_option linter.unusedSimpArgs false
namespace Jvm.Pilot.@@N@@
open Jvm Jvm.ClassFile Sem Op Lib Jvm.Free Jvm.Stand Jvm.LawKit Jvm.RoadKit Bundle Jvm.Free.Fl Jvm.Pilot.@@N@@.Jvm.D
theorem own_hw {a0 : Array Value} {Z : State} (hw : ∀ d ∈ tables_1, d.before a0 Z = true) (i : Nat) {d : Jvm.Cond} (h : tables_1[i]? = some d) : d.before a0 Z = true := hw d (List.mem_of_getElem? h)
section OwnKit
variable {p : Program} {l : Launch} {e : Env} {R : Room} {s : State} {m : MethodId} {args : Array Value} {below : List Frame} {meth : Method} {c : Code} {T : State} {locs : List Loc} {cells slots : Nat}
/-- from the state t the run goes on to a return of which Q holds -/
def own_Go (p : Program) (e : Env) (below : List Frame) (Fe : Outcome → State → List Loc → Prop) (Q : Option Value → Heap → List Loc → Prop) (t : State) : Prop :=
  ∃ s₂ o, Steps p.tables e below t s₂ ∧ s₂.status = .running ∧ Ended s₂ below o ∧ ∃ v L, o = .returned v ∧ Q v s₂.heap L ∧ Fe o s₂ L
theorem own_st {Fe : Outcome → State → List Loc → Prop} {Q : Option Value → Heap → List Loc → Prop} {t t' : State} (h : ∀ target, Steps p.tables e below t' target → Steps p.tables e below t target) (k : own_Go p e below Fe Q t') : own_Go p e below Fe Q t := by
  obtain ⟨s₂, o, h1, r⟩ := k
  exact ⟨s₂, o, h _ h1, r⟩
theorem own_tr {Fe : Outcome → State → List Loc → Prop} {Q : Option Value → Heap → List Loc → Prop} {t t' : State} (h : Steps p.tables e below t t') (k : own_Go p e below Fe Q t') : own_Go p e below Fe Q t := own_st (fun _ q => h.trans q) k
theorem own_ret (X : Stand p l e R s m args below meth c T locs cells slots) {K N : Nat} {Q : Option Value → Heap → List Loc → Prop} {t : State} (v : Option Value) (hv : meth.sig.returnType = none → v = none) (hlocks : meth.locks = false) (hK : cells ≤ K) (hN : slots ≤ N) (hQ : Q v T.heap locs)
    (hs : ∀ fs : List Frame, (∀ (f : JFrame) (acts : List Action), f.method = m → f.locked = none → f.entered = [] → (doReturn e (T.setTop f) acts v).1 = T.setFrames fs) → Steps p.tables e below t (T.setFrames fs)) : own_Go p e below (fun o u L => FrameEnd s o u L K N) Q t := by
  obtain ⟨fs, hr, hrun, hended, hW, hsame⟩ := X.leave (v := v) hv
  exact ⟨_, _, hs fs hr, hrun, hended, _, _, rfl, hQ, ⟨_, rfl⟩, hW, hsame.mono hK hN⟩
theorem own_retI (X : Stand p l e R s m args below meth c T locs cells slots) (hx : p.tables.exec = Jvm.exec) {pc : Nat} {Ls : Array Slot} {z : Int32} {rest : List Value} (hret : meth.sig.returnType = some .int) (hd : decode c.code pc = .ok (.ireturn, 1)) {fs : List Frame}
    (hl : ∀ (f : JFrame) (acts : List Action), f.method = m → f.locked = none → f.entered = [] → (doReturn e (T.setTop f) acts (some (.int z))).1 = T.setFrames fs) : Steps p.tables e below (T.setTop (mkF m pc Ls (.int z :: rest))) (T.setFrames fs) :=
  retOut X hx hret rfl (Or.inl ⟨rfl, Or.inl rfl, _, rfl⟩) hd hl
theorem own_retD (X : Stand p l e R s m args below meth c T locs cells slots) (hx : p.tables.exec = Jvm.exec) {pc : Nat} {Ls : Array Slot} {z : UInt64} {rest : List Value} (hret : meth.sig.returnType = some .double) (hd : decode c.code pc = .ok (.dreturn, 1)) {fs : List Frame}
    (hl : ∀ (f : JFrame) (acts : List Action), f.method = m → f.locked = none → f.entered = [] → (doReturn e (T.setTop f) acts (some (.double z))).1 = T.setFrames fs) : Steps p.tables e below (T.setTop (mkF m pc Ls (.double z :: rest))) (T.setFrames fs) :=
  retOut X hx hret rfl (Or.inr (Or.inr (Or.inl ⟨rfl, rfl, _, rfl⟩))) hd hl
theorem own_retJ (X : Stand p l e R s m args below meth c T locs cells slots) (hx : p.tables.exec = Jvm.exec) {pc : Nat} {Ls : Array Slot} {z : Int64} {rest : List Value} (hret : meth.sig.returnType = some .long) (hd : decode c.code pc = .ok (.lreturn, 1)) {fs : List Frame}
    (hl : ∀ (f : JFrame) (acts : List Action), f.method = m → f.locked = none → f.entered = [] → (doReturn e (T.setTop f) acts (some (.long z))).1 = T.setFrames fs) : Steps p.tables e below (T.setTop (mkF m pc Ls (.long z :: rest))) (T.setFrames fs) :=
  retOut X hx hret rfl (Or.inr (Or.inl ⟨rfl, rfl, _, rfl⟩)) hd hl
theorem own_retR (X : Stand p l e R s m args below meth c T locs cells slots) (hx : p.tables.exec = Jvm.exec) {pc : Nat} {Ls : Array Slot} {w : Value} {rest : List Value} {t : FieldType} (hret : meth.sig.returnType = some t) (ht : t.isReference = true) (hw : w.isRef = true) (hd : decode c.code pc = .ok (.areturn, 1)) {fs : List Frame}
    (hl : ∀ (f : JFrame) (acts : List Action), f.method = m → f.locked = none → f.entered = [] → (doReturn e (T.setTop f) acts (some w)).1 = T.setFrames fs) : Steps p.tables e below (T.setTop (mkF m pc Ls (w :: rest))) (T.setFrames fs) :=
  retOut X hx hret (by cases t <;> first | (cases ht; done) | rfl) (Or.inr (Or.inr (Or.inr (Or.inr ⟨rfl, ht, hw⟩)))) hd hl
theorem own_staKeep {Z : State} {h h' : Heap} {C n d : String} {v : Value} {ws : List Addr} (F : Sta Z h C n d v) (K : Keep h h' ws) (hn : ∀ x ∈ ws, ∀ cell : Cell, h[x]? = some cell → cell.vm.isStatics = false) : Sta Z h' C n d v := by
  obtain ⟨cf, i, k, f, st, cell, h1, h2, h3, h4, h5, h6, h7⟩ := F
  exact ⟨cf, i, k, f, st, cell, h1, h2, h3, h4, K.2.1 st cell h5 (fun q => by have := hn st q cell h5; rw [h6] at this; cases this), h6, h7⟩
end OwnKit
section OwnSteps
variable {p : Program} {l : Launch} {e : Env} {R : Room} {s : State} {m : MethodId} {args : Array Value} {below : List Frame} {meth : Method} {c : Code} {T : State} {locs : List Loc} {cells slots : Nat} {Fe : Outcome → State → List Loc → Prop} {Q : Option Value → Heap → List Loc → Prop} {pc : Nat} {Ls : Array Slot} {st : List Value} {Z : State} {a0 : Array Value} {h : Heap}
theorem own_iload (X : Stand p l e R s m args below meth c T locs cells slots) (hx : p.tables.exec = Jvm.exec) {i : Nat} {v : Int32} (pc' : Nat) (hp : pc + 2 = pc') (hd : decode c.code pc = .ok (.iload i, 2)) (hl : Ls[i]? = some (.val (.int v))) (k : own_Go p e below Fe Q (T.setTop (mkF m pc' Ls (.int v :: st)))) : own_Go p e below Fe Q (T.setTop (mkF m pc Ls (st))) := by
  subst hp
  exact own_st (fun _ hr => XS.iload X.here hx rfl hd hl hr) k
theorem own_iloadN (X : Stand p l e R s m args below meth c T locs cells slots) (hx : p.tables.exec = Jvm.exec) {i : Fin 4} {v : Int32} (pc' : Nat) (hp : pc + 1 = pc') (hd : decode c.code pc = .ok (.iload_n i, 1)) (hl : Ls[i.val]? = some (.val (.int v))) (k : own_Go p e below Fe Q (T.setTop (mkF m pc' Ls (.int v :: st)))) : own_Go p e below Fe Q (T.setTop (mkF m pc Ls (st))) := by
  subst hp
  exact own_st (fun _ hr => XS.iloadN X.here hx rfl hd hl hr) k
theorem own_istore (X : Stand p l e R s m args below meth c T locs cells slots) (hx : p.tables.exec = Jvm.exec) {i : Nat} {x : Int32} (pc' : Nat) (hp : pc + 2 = pc') (hd : decode c.code pc = .ok (.istore i, 2)) (Ls' : Array Slot) (hl : storeLocals Ls i (.int x) = some Ls') (k : own_Go p e below Fe Q (T.setTop (mkF m pc' Ls' (st)))) : own_Go p e below Fe Q (T.setTop (mkF m pc Ls (.int x :: st))) := by
  subst hp
  exact own_st (fun _ hr => XS.istore X.here hx rfl hd rfl hl hr) k
theorem own_istoreN (X : Stand p l e R s m args below meth c T locs cells slots) (hx : p.tables.exec = Jvm.exec) {i : Fin 4} {x : Int32} (pc' : Nat) (hp : pc + 1 = pc') (hd : decode c.code pc = .ok (.istore_n i, 1)) (Ls' : Array Slot) (hl : storeLocals Ls i.val (.int x) = some Ls') (k : own_Go p e below Fe Q (T.setTop (mkF m pc' Ls' (st)))) : own_Go p e below Fe Q (T.setTop (mkF m pc Ls (.int x :: st))) := by
  subst hp
  exact own_st (fun _ hr => XS.istoreN X.here hx rfl hd rfl hl hr) k
theorem own_lload (X : Stand p l e R s m args below meth c T locs cells slots) (hx : p.tables.exec = Jvm.exec) {i : Nat} {v : Int64} (pc' : Nat) (hp : pc + 2 = pc') (hd : decode c.code pc = .ok (.lload i, 2)) (hl : Ls[i]? = some (.val (.long v))) (k : own_Go p e below Fe Q (T.setTop (mkF m pc' Ls (.long v :: st)))) : own_Go p e below Fe Q (T.setTop (mkF m pc Ls (st))) := by
  subst hp
  exact own_st (fun _ hr => XS.lload X.here hx rfl hd hl hr) k
theorem own_lloadN (X : Stand p l e R s m args below meth c T locs cells slots) (hx : p.tables.exec = Jvm.exec) {i : Fin 4} {v : Int64} (pc' : Nat) (hp : pc + 1 = pc') (hd : decode c.code pc = .ok (.lload_n i, 1)) (hl : Ls[i.val]? = some (.val (.long v))) (k : own_Go p e below Fe Q (T.setTop (mkF m pc' Ls (.long v :: st)))) : own_Go p e below Fe Q (T.setTop (mkF m pc Ls (st))) := by
  subst hp
  exact own_st (fun _ hr => XS.lloadN X.here hx rfl hd hl hr) k
theorem own_lstore (X : Stand p l e R s m args below meth c T locs cells slots) (hx : p.tables.exec = Jvm.exec) {i : Nat} {x : Int64} (pc' : Nat) (hp : pc + 2 = pc') (hd : decode c.code pc = .ok (.lstore i, 2)) (Ls' : Array Slot) (hl : storeLocals Ls i (.long x) = some Ls') (k : own_Go p e below Fe Q (T.setTop (mkF m pc' Ls' (st)))) : own_Go p e below Fe Q (T.setTop (mkF m pc Ls (.long x :: st))) := by
  subst hp
  exact own_st (fun _ hr => XS.lstore X.here hx rfl hd rfl hl hr) k
theorem own_lstoreN (X : Stand p l e R s m args below meth c T locs cells slots) (hx : p.tables.exec = Jvm.exec) {i : Fin 4} {x : Int64} (pc' : Nat) (hp : pc + 1 = pc') (hd : decode c.code pc = .ok (.lstore_n i, 1)) (Ls' : Array Slot) (hl : storeLocals Ls i.val (.long x) = some Ls') (k : own_Go p e below Fe Q (T.setTop (mkF m pc' Ls' (st)))) : own_Go p e below Fe Q (T.setTop (mkF m pc Ls (.long x :: st))) := by
  subst hp
  exact own_st (fun _ hr => XS.lstoreN X.here hx rfl hd rfl hl hr) k
theorem own_dload (X : Stand p l e R s m args below meth c T locs cells slots) (hx : p.tables.exec = Jvm.exec) {i : Nat} {v : UInt64} (pc' : Nat) (hp : pc + 2 = pc') (hd : decode c.code pc = .ok (.dload i, 2)) (hl : Ls[i]? = some (.val (.double v))) (k : own_Go p e below Fe Q (T.setTop (mkF m pc' Ls (.double v :: st)))) : own_Go p e below Fe Q (T.setTop (mkF m pc Ls (st))) := by
  subst hp
  exact own_st (fun _ hr => XS.dload X.here hx rfl hd hl hr) k
theorem own_dloadN (X : Stand p l e R s m args below meth c T locs cells slots) (hx : p.tables.exec = Jvm.exec) {i : Fin 4} {v : UInt64} (pc' : Nat) (hp : pc + 1 = pc') (hd : decode c.code pc = .ok (.dload_n i, 1)) (hl : Ls[i.val]? = some (.val (.double v))) (k : own_Go p e below Fe Q (T.setTop (mkF m pc' Ls (.double v :: st)))) : own_Go p e below Fe Q (T.setTop (mkF m pc Ls (st))) := by
  subst hp
  exact own_st (fun _ hr => XS.dloadN X.here hx rfl hd hl hr) k
theorem own_dstore (X : Stand p l e R s m args below meth c T locs cells slots) (hx : p.tables.exec = Jvm.exec) {i : Nat} {x : UInt64} (pc' : Nat) (hp : pc + 2 = pc') (hd : decode c.code pc = .ok (.dstore i, 2)) (Ls' : Array Slot) (hl : storeLocals Ls i (.double x) = some Ls') (k : own_Go p e below Fe Q (T.setTop (mkF m pc' Ls' (st)))) : own_Go p e below Fe Q (T.setTop (mkF m pc Ls (.double x :: st))) := by
  subst hp
  exact own_st (fun _ hr => XS.dstore X.here hx rfl hd rfl hl hr) k
theorem own_dstoreN (X : Stand p l e R s m args below meth c T locs cells slots) (hx : p.tables.exec = Jvm.exec) {i : Fin 4} {x : UInt64} (pc' : Nat) (hp : pc + 1 = pc') (hd : decode c.code pc = .ok (.dstore_n i, 1)) (Ls' : Array Slot) (hl : storeLocals Ls i.val (.double x) = some Ls') (k : own_Go p e below Fe Q (T.setTop (mkF m pc' Ls' (st)))) : own_Go p e below Fe Q (T.setTop (mkF m pc Ls (.double x :: st))) := by
  subst hp
  exact own_st (fun _ hr => XS.dstoreN X.here hx rfl hd rfl hl hr) k
theorem own_aload (X : Stand p l e R s m args below meth c T locs cells slots) (hx : p.tables.exec = Jvm.exec) {i : Nat} {v : Value} (pc' : Nat) (hp : pc + 2 = pc') (hd : decode c.code pc = .ok (.aload i, 2)) (hl : Ls[i]? = some (.val v)) (hv : v.isRef = true) (k : own_Go p e below Fe Q (T.setTop (mkF m pc' Ls (v :: st)))) : own_Go p e below Fe Q (T.setTop (mkF m pc Ls (st))) := by
  subst hp
  exact own_st (fun _ hr => XS.aload X.here hx rfl hd hl hv hr) k
theorem own_aloadN (X : Stand p l e R s m args below meth c T locs cells slots) (hx : p.tables.exec = Jvm.exec) {i : Fin 4} {v : Value} (pc' : Nat) (hp : pc + 1 = pc') (hd : decode c.code pc = .ok (.aload_n i, 1)) (hl : Ls[i.val]? = some (.val v)) (hv : v.isRef = true) (k : own_Go p e below Fe Q (T.setTop (mkF m pc' Ls (v :: st)))) : own_Go p e below Fe Q (T.setTop (mkF m pc Ls (st))) := by
  subst hp
  exact own_st (fun _ hr => XS.aloadN X.here hx rfl hd hl hv hr) k
theorem own_astore (X : Stand p l e R s m args below meth c T locs cells slots) (hx : p.tables.exec = Jvm.exec) {i : Nat} {x : Value} (pc' : Nat) (hp : pc + 2 = pc') (hd : decode c.code pc = .ok (.astore i, 2)) (hv : x.isRef = true) (Ls' : Array Slot) (hl : storeLocals Ls i x = some Ls') (k : own_Go p e below Fe Q (T.setTop (mkF m pc' Ls' (st)))) : own_Go p e below Fe Q (T.setTop (mkF m pc Ls (x :: st))) := by
  subst hp
  exact own_st (fun _ hr => XS.astore X.here hx rfl hd rfl hv hl hr) k
theorem own_astoreN (X : Stand p l e R s m args below meth c T locs cells slots) (hx : p.tables.exec = Jvm.exec) {i : Fin 4} {x : Value} (pc' : Nat) (hp : pc + 1 = pc') (hd : decode c.code pc = .ok (.astore_n i, 1)) (hv : x.isRef = true) (Ls' : Array Slot) (hl : storeLocals Ls i.val x = some Ls') (k : own_Go p e below Fe Q (T.setTop (mkF m pc' Ls' (st)))) : own_Go p e below Fe Q (T.setTop (mkF m pc Ls (x :: st))) := by
  subst hp
  exact own_st (fun _ hr => XS.astoreN X.here hx rfl hd rfl hv hl hr) k
theorem own_iconst (X : Stand p l e R s m args below meth c T locs cells slots) (hx : p.tables.exec = Jvm.exec) {i : Int} (pc' : Nat) (hp : pc + 1 = pc') (hd : decode c.code pc = .ok (.iconst i, 1)) (z : Int32) (hz : Int32.ofInt i = z) (k : own_Go p e below Fe Q (T.setTop (mkF m pc' Ls (.int z :: st)))) : own_Go p e below Fe Q (T.setTop (mkF m pc Ls (st))) := by
  subst hp; subst hz
  exact own_st (fun _ hr => XS.iconst X.here hx rfl hd hr) k
theorem own_bipush (X : Stand p l e R s m args below meth c T locs cells slots) (hx : p.tables.exec = Jvm.exec) {i : Int} (pc' : Nat) (hp : pc + 2 = pc') (hd : decode c.code pc = .ok (.bipush i, 2)) (z : Int32) (hz : (Int8.ofInt i).toInt32 = z) (k : own_Go p e below Fe Q (T.setTop (mkF m pc' Ls (.int z :: st)))) : own_Go p e below Fe Q (T.setTop (mkF m pc Ls (st))) := by
  subst hp; subst hz
  exact own_st (fun _ hr => XS.bipush X.here hx rfl hd hr) k
theorem own_sipush (X : Stand p l e R s m args below meth c T locs cells slots) (hx : p.tables.exec = Jvm.exec) {i : Int} (pc' : Nat) (hp : pc + 3 = pc') (hd : decode c.code pc = .ok (.sipush i, 3)) (z : Int32) (hz : (Int16.ofInt i).toInt32 = z) (k : own_Go p e below Fe Q (T.setTop (mkF m pc' Ls (.int z :: st)))) : own_Go p e below Fe Q (T.setTop (mkF m pc Ls (st))) := by
  subst hp; subst hz
  exact own_st (fun _ hr => XS.sipush X.here hx rfl hd hr) k
theorem own_lconst (X : Stand p l e R s m args below meth c T locs cells slots) (hx : p.tables.exec = Jvm.exec) {i : Fin 2} (pc' : Nat) (hp : pc + 1 = pc') (hd : decode c.code pc = .ok (.lconst i, 1)) (z : Int64) (hz : Int64.ofNat i = z) (k : own_Go p e below Fe Q (T.setTop (mkF m pc' Ls (.long z :: st)))) : own_Go p e below Fe Q (T.setTop (mkF m pc Ls (st))) := by
  subst hp; subst hz
  exact own_st (fun _ hr => XS.lconst X.here hx rfl hd hr) k
theorem own_dconst0 (X : Stand p l e R s m args below meth c T locs cells slots) (hx : p.tables.exec = Jvm.exec)  (pc' : Nat) (hp : pc + 1 = pc') (hd : decode c.code pc = .ok (.dconst 0, 1))  (k : own_Go p e below Fe Q (T.setTop (mkF m pc' Ls (.double FP.dconst0 :: st)))) : own_Go p e below Fe Q (T.setTop (mkF m pc Ls (st))) := by
  subst hp
  exact own_st (fun _ hr => XS.dconst0 X.here hx rfl hd rfl hr) k
theorem own_dconst1 (X : Stand p l e R s m args below meth c T locs cells slots) (hx : p.tables.exec = Jvm.exec)  (pc' : Nat) (hp : pc + 1 = pc') (hd : decode c.code pc = .ok (.dconst 1, 1))  (k : own_Go p e below Fe Q (T.setTop (mkF m pc' Ls (.double FP.dconst1 :: st)))) : own_Go p e below Fe Q (T.setTop (mkF m pc Ls (st))) := by
  subst hp
  exact own_st (fun _ hr => XS.dconst1 X.here hx rfl hd rfl hr) k
theorem own_aconst_null (X : Stand p l e R s m args below meth c T locs cells slots) (hx : p.tables.exec = Jvm.exec)  (pc' : Nat) (hp : pc + 1 = pc') (hd : decode c.code pc = .ok (.aconst_null, 1))  (k : own_Go p e below Fe Q (T.setTop (mkF m pc' Ls (.null :: st)))) : own_Go p e below Fe Q (T.setTop (mkF m pc Ls (st))) := by
  subst hp
  exact own_st (fun _ hr => XS.aconstNull X.here hx rfl hd hr) k
theorem own_iadd (X : Stand p l e R s m args below meth c T locs cells slots) (hx : p.tables.exec = Jvm.exec) {x y : Int32} (pc' : Nat) (hp : pc + 1 = pc') (hd : decode c.code pc = .ok (.iadd, 1)) (z : Int32) (hz : x + y = z) (k : own_Go p e below Fe Q (T.setTop (mkF m pc' Ls (.int z :: st)))) : own_Go p e below Fe Q (T.setTop (mkF m pc Ls (.int y :: .int x :: st))) := by
  subst hp; subst hz
  exact own_st (fun _ hr => XS.iadd X.here hx rfl hd rfl hr) k
theorem own_isub (X : Stand p l e R s m args below meth c T locs cells slots) (hx : p.tables.exec = Jvm.exec) {x y : Int32} (pc' : Nat) (hp : pc + 1 = pc') (hd : decode c.code pc = .ok (.isub, 1)) (z : Int32) (hz : x - y = z) (k : own_Go p e below Fe Q (T.setTop (mkF m pc' Ls (.int z :: st)))) : own_Go p e below Fe Q (T.setTop (mkF m pc Ls (.int y :: .int x :: st))) := by
  subst hp; subst hz
  exact own_st (fun _ hr => XS.isub X.here hx rfl hd rfl hr) k
theorem own_imul (X : Stand p l e R s m args below meth c T locs cells slots) (hx : p.tables.exec = Jvm.exec) {x y : Int32} (pc' : Nat) (hp : pc + 1 = pc') (hd : decode c.code pc = .ok (.imul, 1)) (z : Int32) (hz : x * y = z) (k : own_Go p e below Fe Q (T.setTop (mkF m pc' Ls (.int z :: st)))) : own_Go p e below Fe Q (T.setTop (mkF m pc Ls (.int y :: .int x :: st))) := by
  subst hp; subst hz
  exact own_st (fun _ hr => XS.imul X.here hx rfl hd rfl hr) k
theorem own_iand (X : Stand p l e R s m args below meth c T locs cells slots) (hx : p.tables.exec = Jvm.exec) {x y : Int32} (pc' : Nat) (hp : pc + 1 = pc') (hd : decode c.code pc = .ok (.iand, 1)) (z : Int32) (hz : x &&& y = z) (k : own_Go p e below Fe Q (T.setTop (mkF m pc' Ls (.int z :: st)))) : own_Go p e below Fe Q (T.setTop (mkF m pc Ls (.int y :: .int x :: st))) := by
  subst hp; subst hz
  exact own_st (fun _ hr => XS.iand X.here hx rfl hd rfl hr) k
theorem own_ior (X : Stand p l e R s m args below meth c T locs cells slots) (hx : p.tables.exec = Jvm.exec) {x y : Int32} (pc' : Nat) (hp : pc + 1 = pc') (hd : decode c.code pc = .ok (.ior, 1)) (z : Int32) (hz : x ||| y = z) (k : own_Go p e below Fe Q (T.setTop (mkF m pc' Ls (.int z :: st)))) : own_Go p e below Fe Q (T.setTop (mkF m pc Ls (.int y :: .int x :: st))) := by
  subst hp; subst hz
  exact own_st (fun _ hr => XS.ior X.here hx rfl hd rfl hr) k
theorem own_ixor (X : Stand p l e R s m args below meth c T locs cells slots) (hx : p.tables.exec = Jvm.exec) {x y : Int32} (pc' : Nat) (hp : pc + 1 = pc') (hd : decode c.code pc = .ok (.ixor, 1)) (z : Int32) (hz : x ^^^ y = z) (k : own_Go p e below Fe Q (T.setTop (mkF m pc' Ls (.int z :: st)))) : own_Go p e below Fe Q (T.setTop (mkF m pc Ls (.int y :: .int x :: st))) := by
  subst hp; subst hz
  exact own_st (fun _ hr => XS.ixor X.here hx rfl hd rfl hr) k
theorem own_ineg (X : Stand p l e R s m args below meth c T locs cells slots) (hx : p.tables.exec = Jvm.exec) {x : Int32} (pc' : Nat) (hp : pc + 1 = pc') (hd : decode c.code pc = .ok (.ineg, 1)) (z : Int32) (hz : -x = z) (k : own_Go p e below Fe Q (T.setTop (mkF m pc' Ls (.int z :: st)))) : own_Go p e below Fe Q (T.setTop (mkF m pc Ls (.int x :: st))) := by
  subst hp; subst hz
  exact own_st (fun _ hr => XS.ineg X.here hx rfl hd rfl hr) k
theorem own_idiv (X : Stand p l e R s m args below meth c T locs cells slots) (hx : p.tables.exec = Jvm.exec) {x y : Int32} (pc' : Nat) (hp : pc + 1 = pc') (hd : decode c.code pc = .ok (.idiv, 1)) (hy : y ≠ 0) (z : Int32) (hz : x / y = z) (k : own_Go p e below Fe Q (T.setTop (mkF m pc' Ls (.int z :: st)))) : own_Go p e below Fe Q (T.setTop (mkF m pc Ls (.int y :: .int x :: st))) := by
  subst hp; subst hz
  exact own_st (fun _ hr => XS.idiv X.here hx rfl hd rfl hy hr) k
theorem own_ladd (X : Stand p l e R s m args below meth c T locs cells slots) (hx : p.tables.exec = Jvm.exec) {x y : Int64} (pc' : Nat) (hp : pc + 1 = pc') (hd : decode c.code pc = .ok (.ladd, 1)) (z : Int64) (hz : x + y = z) (k : own_Go p e below Fe Q (T.setTop (mkF m pc' Ls (.long z :: st)))) : own_Go p e below Fe Q (T.setTop (mkF m pc Ls (.long y :: .long x :: st))) := by
  subst hp; subst hz
  exact own_st (fun _ hr => XS.ladd X.here hx rfl hd rfl hr) k
theorem own_lsub (X : Stand p l e R s m args below meth c T locs cells slots) (hx : p.tables.exec = Jvm.exec) {x y : Int64} (pc' : Nat) (hp : pc + 1 = pc') (hd : decode c.code pc = .ok (.lsub, 1)) (z : Int64) (hz : x - y = z) (k : own_Go p e below Fe Q (T.setTop (mkF m pc' Ls (.long z :: st)))) : own_Go p e below Fe Q (T.setTop (mkF m pc Ls (.long y :: .long x :: st))) := by
  subst hp; subst hz
  exact own_st (fun _ hr => XS.lsub X.here hx rfl hd rfl hr) k
theorem own_lmul (X : Stand p l e R s m args below meth c T locs cells slots) (hx : p.tables.exec = Jvm.exec) {x y : Int64} (pc' : Nat) (hp : pc + 1 = pc') (hd : decode c.code pc = .ok (.lmul, 1)) (z : Int64) (hz : x * y = z) (k : own_Go p e below Fe Q (T.setTop (mkF m pc' Ls (.long z :: st)))) : own_Go p e below Fe Q (T.setTop (mkF m pc Ls (.long y :: .long x :: st))) := by
  subst hp; subst hz
  exact own_st (fun _ hr => XS.lmul X.here hx rfl hd rfl hr) k
theorem own_land (X : Stand p l e R s m args below meth c T locs cells slots) (hx : p.tables.exec = Jvm.exec) {x y : Int64} (pc' : Nat) (hp : pc + 1 = pc') (hd : decode c.code pc = .ok (.land, 1)) (z : Int64) (hz : x &&& y = z) (k : own_Go p e below Fe Q (T.setTop (mkF m pc' Ls (.long z :: st)))) : own_Go p e below Fe Q (T.setTop (mkF m pc Ls (.long y :: .long x :: st))) := by
  subst hp; subst hz
  exact own_st (fun _ hr => XS.land X.here hx rfl hd rfl hr) k
theorem own_lor (X : Stand p l e R s m args below meth c T locs cells slots) (hx : p.tables.exec = Jvm.exec) {x y : Int64} (pc' : Nat) (hp : pc + 1 = pc') (hd : decode c.code pc = .ok (.lor, 1)) (z : Int64) (hz : x ||| y = z) (k : own_Go p e below Fe Q (T.setTop (mkF m pc' Ls (.long z :: st)))) : own_Go p e below Fe Q (T.setTop (mkF m pc Ls (.long y :: .long x :: st))) := by
  subst hp; subst hz
  exact own_st (fun _ hr => XS.lor X.here hx rfl hd rfl hr) k
theorem own_lxor (X : Stand p l e R s m args below meth c T locs cells slots) (hx : p.tables.exec = Jvm.exec) {x y : Int64} (pc' : Nat) (hp : pc + 1 = pc') (hd : decode c.code pc = .ok (.lxor, 1)) (z : Int64) (hz : x ^^^ y = z) (k : own_Go p e below Fe Q (T.setTop (mkF m pc' Ls (.long z :: st)))) : own_Go p e below Fe Q (T.setTop (mkF m pc Ls (.long y :: .long x :: st))) := by
  subst hp; subst hz
  exact own_st (fun _ hr => XS.lxor X.here hx rfl hd rfl hr) k
theorem own_lneg (X : Stand p l e R s m args below meth c T locs cells slots) (hx : p.tables.exec = Jvm.exec) {x : Int64} (pc' : Nat) (hp : pc + 1 = pc') (hd : decode c.code pc = .ok (.lneg, 1)) (z : Int64) (hz : -x = z) (k : own_Go p e below Fe Q (T.setTop (mkF m pc' Ls (.long z :: st)))) : own_Go p e below Fe Q (T.setTop (mkF m pc Ls (.long x :: st))) := by
  subst hp; subst hz
  exact own_st (fun _ hr => XS.lneg X.here hx rfl hd rfl hr) k
theorem own_ldiv (X : Stand p l e R s m args below meth c T locs cells slots) (hx : p.tables.exec = Jvm.exec) {x y : Int64} (pc' : Nat) (hp : pc + 1 = pc') (hd : decode c.code pc = .ok (.ldiv, 1)) (hy : y ≠ 0) (z : Int64) (hz : x / y = z) (k : own_Go p e below Fe Q (T.setTop (mkF m pc' Ls (.long z :: st)))) : own_Go p e below Fe Q (T.setTop (mkF m pc Ls (.long y :: .long x :: st))) := by
  subst hp; subst hz
  exact own_st (fun _ hr => XS.ldiv X.here hx rfl hd rfl hy hr) k
theorem own_irem (X : Stand p l e R s m args below meth c T locs cells slots) (hx : p.tables.exec = Jvm.exec) {x y : Int32} (pc' : Nat) (hp : pc + 1 = pc') (hd : decode c.code pc = .ok (.irem, 1)) (hy : y ≠ 0) (z : Int32) (hz : x % y = z) (k : own_Go p e below Fe Q (T.setTop (mkF m pc' Ls (.int z :: st)))) : own_Go p e below Fe Q (T.setTop (mkF m pc Ls (.int y :: .int x :: st))) := by
  subst hp; subst hz
  exact own_st (fun _ hr => iremM (g := mkF m pc Ls (.int y :: .int x :: st)) X hx rfl hd rfl hy hr) k
theorem own_lrem (X : Stand p l e R s m args below meth c T locs cells slots) (hx : p.tables.exec = Jvm.exec) {x y : Int64} (pc' : Nat) (hp : pc + 1 = pc') (hd : decode c.code pc = .ok (.lrem, 1)) (hy : y ≠ 0) (z : Int64) (hz : x % y = z) (k : own_Go p e below Fe Q (T.setTop (mkF m pc' Ls (.long z :: st)))) : own_Go p e below Fe Q (T.setTop (mkF m pc Ls (.long y :: .long x :: st))) := by
  subst hp; subst hz
  exact own_st (fun _ hr => XS.lrem X.here hx rfl hd rfl hy (by rw [lrem_mod]; exact hr)) k
theorem own_ishl (X : Stand p l e R s m args below meth c T locs cells slots) (hx : p.tables.exec = Jvm.exec) {x : Int32} {y : Int32} (pc' : Nat) (hp : pc + 1 = pc') (hd : decode c.code pc = .ok (.ishl, 1)) (z : Int32) (hz : x <<< (y &&& 31) = z) (k : own_Go p e below Fe Q (T.setTop (mkF m pc' Ls (.int z :: st)))) : own_Go p e below Fe Q (T.setTop (mkF m pc Ls (.int y :: .int x :: st))) := by
  subst hp; subst hz
  exact own_st (fun _ hr => XS.ishl X.here hx rfl hd rfl hr) k
theorem own_ishr (X : Stand p l e R s m args below meth c T locs cells slots) (hx : p.tables.exec = Jvm.exec) {x : Int32} {y : Int32} (pc' : Nat) (hp : pc + 1 = pc') (hd : decode c.code pc = .ok (.ishr, 1)) (z : Int32) (hz : x >>> (y &&& 31) = z) (k : own_Go p e below Fe Q (T.setTop (mkF m pc' Ls (.int z :: st)))) : own_Go p e below Fe Q (T.setTop (mkF m pc Ls (.int y :: .int x :: st))) := by
  subst hp; subst hz
  exact own_st (fun _ hr => XS.ishr X.here hx rfl hd rfl hr) k
theorem own_iushr (X : Stand p l e R s m args below meth c T locs cells slots) (hx : p.tables.exec = Jvm.exec) {x : Int32} {y : Int32} (pc' : Nat) (hp : pc + 1 = pc') (hd : decode c.code pc = .ok (.iushr, 1)) (z : Int32) (hz : (x.toUInt32 >>> (y &&& 31).toUInt32).toInt32 = z) (k : own_Go p e below Fe Q (T.setTop (mkF m pc' Ls (.int z :: st)))) : own_Go p e below Fe Q (T.setTop (mkF m pc Ls (.int y :: .int x :: st))) := by
  subst hp; subst hz
  exact own_st (fun _ hr => XS.iushr X.here hx rfl hd rfl hr) k
theorem own_lshl (X : Stand p l e R s m args below meth c T locs cells slots) (hx : p.tables.exec = Jvm.exec) {x : Int64} {y : Int32} (pc' : Nat) (hp : pc + 1 = pc') (hd : decode c.code pc = .ok (.lshl, 1)) (z : Int64) (hz : x <<< (y &&& 0x3f).toInt64 = z) (k : own_Go p e below Fe Q (T.setTop (mkF m pc' Ls (.long z :: st)))) : own_Go p e below Fe Q (T.setTop (mkF m pc Ls (.int y :: .long x :: st))) := by
  subst hp; subst hz
  exact own_st (fun _ hr => XS.lshl X.here hx rfl hd rfl hr) k
theorem own_lshr (X : Stand p l e R s m args below meth c T locs cells slots) (hx : p.tables.exec = Jvm.exec) {x : Int64} {y : Int32} (pc' : Nat) (hp : pc + 1 = pc') (hd : decode c.code pc = .ok (.lshr, 1)) (z : Int64) (hz : x >>> (y &&& 0x3f).toInt64 = z) (k : own_Go p e below Fe Q (T.setTop (mkF m pc' Ls (.long z :: st)))) : own_Go p e below Fe Q (T.setTop (mkF m pc Ls (.int y :: .long x :: st))) := by
  subst hp; subst hz
  exact own_st (fun _ hr => XS.lshr X.here hx rfl hd rfl hr) k
theorem own_lushr (X : Stand p l e R s m args below meth c T locs cells slots) (hx : p.tables.exec = Jvm.exec) {x : Int64} {y : Int32} (pc' : Nat) (hp : pc + 1 = pc') (hd : decode c.code pc = .ok (.lushr, 1)) (z : Int64) (hz : (x.toUInt64 >>> (y &&& 0x3f).toInt64.toUInt64).toInt64 = z) (k : own_Go p e below Fe Q (T.setTop (mkF m pc' Ls (.long z :: st)))) : own_Go p e below Fe Q (T.setTop (mkF m pc Ls (.int y :: .long x :: st))) := by
  subst hp; subst hz
  exact own_st (fun _ hr => XS.lushr X.here hx rfl hd rfl hr) k
theorem own_i2l (X : Stand p l e R s m args below meth c T locs cells slots) (hx : p.tables.exec = Jvm.exec) {x : Int32} (pc' : Nat) (hp : pc + 1 = pc') (hd : decode c.code pc = .ok (.i2l, 1)) (z : Int64) (hz : x.toInt64 = z) (k : own_Go p e below Fe Q (T.setTop (mkF m pc' Ls (.long z :: st)))) : own_Go p e below Fe Q (T.setTop (mkF m pc Ls (.int x :: st))) := by
  subst hp; subst hz
  exact own_st (fun _ hr => XS.i2l X.here hx rfl hd rfl hr) k
theorem own_l2i (X : Stand p l e R s m args below meth c T locs cells slots) (hx : p.tables.exec = Jvm.exec) {x : Int64} (pc' : Nat) (hp : pc + 1 = pc') (hd : decode c.code pc = .ok (.l2i, 1)) (z : Int32) (hz : x.toInt32 = z) (k : own_Go p e below Fe Q (T.setTop (mkF m pc' Ls (.int z :: st)))) : own_Go p e below Fe Q (T.setTop (mkF m pc Ls (.long x :: st))) := by
  subst hp; subst hz
  exact own_st (fun _ hr => XS.l2i X.here hx rfl hd rfl hr) k
theorem own_i2b (X : Stand p l e R s m args below meth c T locs cells slots) (hx : p.tables.exec = Jvm.exec) {x : Int32} (pc' : Nat) (hp : pc + 1 = pc') (hd : decode c.code pc = .ok (.i2b, 1)) (z : Int32) (hz : x.toInt8.toInt32 = z) (k : own_Go p e below Fe Q (T.setTop (mkF m pc' Ls (.int z :: st)))) : own_Go p e below Fe Q (T.setTop (mkF m pc Ls (.int x :: st))) := by
  subst hp; subst hz
  exact own_st (fun _ hr => XS.i2b X.here hx rfl hd rfl hr) k
theorem own_i2s (X : Stand p l e R s m args below meth c T locs cells slots) (hx : p.tables.exec = Jvm.exec) {x : Int32} (pc' : Nat) (hp : pc + 1 = pc') (hd : decode c.code pc = .ok (.i2s, 1)) (z : Int32) (hz : x.toInt16.toInt32 = z) (k : own_Go p e below Fe Q (T.setTop (mkF m pc' Ls (.int z :: st)))) : own_Go p e below Fe Q (T.setTop (mkF m pc Ls (.int x :: st))) := by
  subst hp; subst hz
  exact own_st (fun _ hr => XS.i2s X.here hx rfl hd rfl hr) k
theorem own_i2c (X : Stand p l e R s m args below meth c T locs cells slots) (hx : p.tables.exec = Jvm.exec) {x : Int32} (pc' : Nat) (hp : pc + 1 = pc') (hd : decode c.code pc = .ok (.i2c, 1)) (z : Int32) (hz : x.toUInt32.toUInt16.toUInt32.toInt32 = z) (k : own_Go p e below Fe Q (T.setTop (mkF m pc' Ls (.int z :: st)))) : own_Go p e below Fe Q (T.setTop (mkF m pc Ls (.int x :: st))) := by
  subst hp; subst hz
  exact own_st (fun _ hr => XS.i2c X.here hx rfl hd rfl hr) k
theorem own_lcmp (X : Stand p l e R s m args below meth c T locs cells slots) (hx : p.tables.exec = Jvm.exec) {x y : Int64} (pc' : Nat) (hp : pc + 1 = pc') (hd : decode c.code pc = .ok (.lcmp, 1)) (z : Int32) (hz : lcmpW x y = z) (k : own_Go p e below Fe Q (T.setTop (mkF m pc' Ls (.int z :: st)))) : own_Go p e below Fe Q (T.setTop (mkF m pc Ls (.long y :: .long x :: st))) := by
  subst hp; subst hz
  exact own_st (fun _ hr => XS.lcmp X.here hx rfl hd rfl hr) k
theorem own_i2d (X : Stand p l e R s m args below meth c T locs cells slots) (hx : p.tables.exec = Jvm.exec) {x : Int32} (pc' : Nat) (hp : pc + 1 = pc') (hd : decode c.code pc = .ok (.i2d, 1)) (z : UInt64) (hz : FP.i2d x = z) (k : own_Go p e below Fe Q (T.setTop (mkF m pc' Ls (.double z :: st)))) : own_Go p e below Fe Q (T.setTop (mkF m pc Ls (.int x :: st))) := by
  subst hp
  exact own_st (fun _ hr => XS.i2dS X.here hx rfl hd rfl hz hr) k
theorem own_l2d (X : Stand p l e R s m args below meth c T locs cells slots) (hx : p.tables.exec = Jvm.exec) {x : Int64} (pc' : Nat) (hp : pc + 1 = pc') (hd : decode c.code pc = .ok (.l2d, 1)) (z : UInt64) (hz : FP.l2d x = z) (k : own_Go p e below Fe Q (T.setTop (mkF m pc' Ls (.double z :: st)))) : own_Go p e below Fe Q (T.setTop (mkF m pc Ls (.long x :: st))) := by
  subst hp
  exact own_st (fun _ hr => XS.l2dS X.here hx rfl hd rfl hz hr) k
theorem own_d2i (X : Stand p l e R s m args below meth c T locs cells slots) (hx : p.tables.exec = Jvm.exec) {x : UInt64} (pc' : Nat) (hp : pc + 1 = pc') (hd : decode c.code pc = .ok (.d2i, 1)) (z : Int32) (hz : FP.d2i x = z) (k : own_Go p e below Fe Q (T.setTop (mkF m pc' Ls (.int z :: st)))) : own_Go p e below Fe Q (T.setTop (mkF m pc Ls (.double x :: st))) := by
  subst hp
  exact own_st (fun _ hr => XS.d2iS X.here hx rfl hd rfl hz hr) k
theorem own_d2l (X : Stand p l e R s m args below meth c T locs cells slots) (hx : p.tables.exec = Jvm.exec) {x : UInt64} (pc' : Nat) (hp : pc + 1 = pc') (hd : decode c.code pc = .ok (.d2l, 1)) (z : Int64) (hz : FP.d2l x = z) (k : own_Go p e below Fe Q (T.setTop (mkF m pc' Ls (.long z :: st)))) : own_Go p e below Fe Q (T.setTop (mkF m pc Ls (.double x :: st))) := by
  subst hp
  exact own_st (fun _ hr => XS.d2lS X.here hx rfl hd rfl hz hr) k
theorem own_dneg (X : Stand p l e R s m args below meth c T locs cells slots) (hx : p.tables.exec = Jvm.exec) {x : UInt64} (pc' : Nat) (hp : pc + 1 = pc') (hd : decode c.code pc = .ok (.dneg, 1)) (z : UInt64) (hz : FP.dneg x = z) (k : own_Go p e below Fe Q (T.setTop (mkF m pc' Ls (.double z :: st)))) : own_Go p e below Fe Q (T.setTop (mkF m pc Ls (.double x :: st))) := by
  subst hp
  exact own_st (fun _ hr => XS.dnegS X.here hx rfl hd rfl hz hr) k
theorem own_dadd (X : Stand p l e R s m args below meth c T locs cells slots) (hx : p.tables.exec = Jvm.exec) {x y : UInt64} (pc' : Nat) (hp : pc + 1 = pc') (hd : decode c.code pc = .ok (.dadd, 1)) (hn : NoNaN64 (FP.dadd x y)) (z : UInt64) (hz : FP.dadd x y = z) (k : own_Go p e below Fe Q (T.setTop (mkF m pc' Ls (.double z :: st)))) : own_Go p e below Fe Q (T.setTop (mkF m pc Ls (.double y :: .double x :: st))) := by
  subst hp
  exact own_st (fun _ hr => XS.daddS X.here hx rfl hd rfl hn hz hr) k
theorem own_dsub (X : Stand p l e R s m args below meth c T locs cells slots) (hx : p.tables.exec = Jvm.exec) {x y : UInt64} (pc' : Nat) (hp : pc + 1 = pc') (hd : decode c.code pc = .ok (.dsub, 1)) (hn : NoNaN64 (FP.dsub x y)) (z : UInt64) (hz : FP.dsub x y = z) (k : own_Go p e below Fe Q (T.setTop (mkF m pc' Ls (.double z :: st)))) : own_Go p e below Fe Q (T.setTop (mkF m pc Ls (.double y :: .double x :: st))) := by
  subst hp
  exact own_st (fun _ hr => XS.dsubS X.here hx rfl hd rfl hn hz hr) k
theorem own_dmul (X : Stand p l e R s m args below meth c T locs cells slots) (hx : p.tables.exec = Jvm.exec) {x y : UInt64} (pc' : Nat) (hp : pc + 1 = pc') (hd : decode c.code pc = .ok (.dmul, 1)) (hn : NoNaN64 (FP.dmul x y)) (z : UInt64) (hz : FP.dmul x y = z) (k : own_Go p e below Fe Q (T.setTop (mkF m pc' Ls (.double z :: st)))) : own_Go p e below Fe Q (T.setTop (mkF m pc Ls (.double y :: .double x :: st))) := by
  subst hp
  exact own_st (fun _ hr => XS.dmulS X.here hx rfl hd rfl hn hz hr) k
theorem own_ddiv (X : Stand p l e R s m args below meth c T locs cells slots) (hx : p.tables.exec = Jvm.exec) {x y : UInt64} (pc' : Nat) (hp : pc + 1 = pc') (hd : decode c.code pc = .ok (.ddiv, 1)) (hn : NoNaN64 (FP.ddiv x y)) (z : UInt64) (hz : FP.ddiv x y = z) (k : own_Go p e below Fe Q (T.setTop (mkF m pc' Ls (.double z :: st)))) : own_Go p e below Fe Q (T.setTop (mkF m pc Ls (.double y :: .double x :: st))) := by
  subst hp
  exact own_st (fun _ hr => XS.ddivS X.here hx rfl hd rfl hn hz hr) k
theorem own_dcmp (X : Stand p l e R s m args below meth c T locs cells slots) (hx : p.tables.exec = Jvm.exec) {o : CmpOp} {x y : UInt64} (pc' : Nat) (hp : pc + 1 = pc') (hd : decode c.code pc = .ok (.dcmp o, 1)) (z : Int32) (hz : cmpValue (FP.dcmp x y) o = z) (k : own_Go p e below Fe Q (T.setTop (mkF m pc' Ls (.int z :: st)))) : own_Go p e below Fe Q (T.setTop (mkF m pc Ls (.double y :: .double x :: st))) := by
  subst hp
  exact own_st (fun _ hr => XS.dcmpS X.here hx rfl hd rfl hz hr) k
theorem own_iinc (X : Stand p l e R s m args below meth c T locs cells slots) (hx : p.tables.exec = Jvm.exec) {i : Nat} {cst : Int} {x : Int32} (pc' : Nat) (hp : pc + 3 = pc') (hd : decode c.code pc = .ok (.iinc i cst, 3)) (hl : Ls[i]? = some (.val (.int x))) (Ls' : Array Slot) (hl' : storeLocals Ls i (.int (x + Int32.ofInt cst)) = some Ls') (k : own_Go p e below Fe Q (T.setTop (mkF m pc' Ls' (st)))) : own_Go p e below Fe Q (T.setTop (mkF m pc Ls (st))) := by
  subst hp
  exact own_st (fun _ hr => XS.iinc X.here hx rfl hd hl hl' hr) k
theorem own_dup (X : Stand p l e R s m args below meth c T locs cells slots) (hx : p.tables.exec = Jvm.exec) {x : Value} (pc' : Nat) (hp : pc + 1 = pc') (hd : decode c.code pc = .ok (.dup, 1)) (hc : x.category = 1) (k : own_Go p e below Fe Q (T.setTop (mkF m pc' Ls (x :: x :: st)))) : own_Go p e below Fe Q (T.setTop (mkF m pc Ls (x :: st))) := by
  subst hp
  exact own_st (fun _ hr => XS.dup X.here hx rfl hd rfl hc hr) k
theorem own_dupX1 (X : Stand p l e R s m args below meth c T locs cells slots) (hx : p.tables.exec = Jvm.exec) {x y : Value} (pc' : Nat) (hp : pc + 1 = pc') (hd : decode c.code pc = .ok (.dup_x1, 1)) (hc : x.category = 1) (hc' : y.category = 1) (k : own_Go p e below Fe Q (T.setTop (mkF m pc' Ls (x :: y :: x :: st)))) : own_Go p e below Fe Q (T.setTop (mkF m pc Ls (x :: y :: st))) := by
  subst hp
  exact own_st (fun _ hr => XS.dupX1 X.here hx rfl hd rfl hc hc' hr) k
theorem own_pop (X : Stand p l e R s m args below meth c T locs cells slots) (hx : p.tables.exec = Jvm.exec) {x : Value} (pc' : Nat) (hp : pc + 1 = pc') (hd : decode c.code pc = .ok (.pop, 1)) (hc : x.category = 1) (k : own_Go p e below Fe Q (T.setTop (mkF m pc' Ls (st)))) : own_Go p e below Fe Q (T.setTop (mkF m pc Ls (x :: st))) := by
  subst hp
  exact own_st (fun _ hr => XS.pop X.here hx rfl hd rfl hc hr) k
theorem own_goto (X : Stand p l e R s m args below meth c T locs cells slots) (hx : p.tables.exec = Jvm.exec)  {o : Int} (pc' : Nat) (hd : decode c.code pc = .ok (.goto o, 3))  (ho : 0 ≤ (pc : Int) + o) (hp : ((pc : Int) + o).toNat = pc') (k : own_Go p e below Fe Q (T.setTop (mkF m pc' Ls (st)))) : own_Go p e below Fe Q (T.setTop (mkF m pc Ls (st))) :=
  own_st (fun _ hr => XS.goto X.here hx rfl rfl hd ho hp hr) k
theorem own_ifYes (X : Stand p l e R s m args below meth c T locs cells slots) (hx : p.tables.exec = Jvm.exec) {cd : ClassFile.Cond} {x : Int32} {o : Int} (pc' : Nat) (hd : decode c.code pc = .ok (.ifCond cd o, 3)) (hc : ifCond.holds cd x = true) (ho : 0 ≤ (pc : Int) + o) (hp : ((pc : Int) + o).toNat = pc') (k : own_Go p e below Fe Q (T.setTop (mkF m pc' Ls (st)))) : own_Go p e below Fe Q (T.setTop (mkF m pc Ls (.int x :: st))) :=
  own_st (fun _ hr => XS.ifYes X.here hx rfl rfl hd rfl hc ho hp hr) k
theorem own_icmpYes (X : Stand p l e R s m args below meth c T locs cells slots) (hx : p.tables.exec = Jvm.exec) {cd : ClassFile.Cond} {x y : Int32} {o : Int} (pc' : Nat) (hd : decode c.code pc = .ok (.if_icmp cd o, 3)) (hc : if_icmp.holds cd x y = true) (ho : 0 ≤ (pc : Int) + o) (hp : ((pc : Int) + o).toNat = pc') (k : own_Go p e below Fe Q (T.setTop (mkF m pc' Ls (st)))) : own_Go p e below Fe Q (T.setTop (mkF m pc Ls (.int y :: .int x :: st))) :=
  own_st (fun _ hr => XS.icmpYes X.here hx rfl rfl hd rfl hc ho hp hr) k
theorem own_ifnullYes (X : Stand p l e R s m args below meth c T locs cells slots) (hx : p.tables.exec = Jvm.exec)  {o : Int} (pc' : Nat) (hd : decode c.code pc = .ok (.ifnull o, 3))  (ho : 0 ≤ (pc : Int) + o) (hp : ((pc : Int) + o).toNat = pc') (k : own_Go p e below Fe Q (T.setTop (mkF m pc' Ls (st)))) : own_Go p e below Fe Q (T.setTop (mkF m pc Ls (.null :: st))) :=
  own_st (fun _ hr => XS.ifnullYes X.here hx rfl rfl hd rfl ho hp hr) k
theorem own_ifnonnullYes (X : Stand p l e R s m args below meth c T locs cells slots) (hx : p.tables.exec = Jvm.exec) {b : Addr} {o : Int} (pc' : Nat) (hd : decode c.code pc = .ok (.ifnonnull o, 3))  (ho : 0 ≤ (pc : Int) + o) (hp : ((pc : Int) + o).toNat = pc') (k : own_Go p e below Fe Q (T.setTop (mkF m pc' Ls (st)))) : own_Go p e below Fe Q (T.setTop (mkF m pc Ls (.ref b :: st))) :=
  own_st (fun _ hr => XS.ifnonnullYes X.here hx rfl rfl hd rfl ho hp hr) k
theorem own_ifNo (X : Stand p l e R s m args below meth c T locs cells slots) (hx : p.tables.exec = Jvm.exec) {cd : ClassFile.Cond} {o : Int} {x : Int32} (pc' : Nat) (hp : pc + 3 = pc') (hd : decode c.code pc = .ok (.ifCond cd o, 3)) (hc : ifCond.holds cd x = false) (k : own_Go p e below Fe Q (T.setTop (mkF m pc' Ls (st)))) : own_Go p e below Fe Q (T.setTop (mkF m pc Ls (.int x :: st))) := by
  subst hp
  exact own_st (fun _ hr => XS.ifNo X.here hx rfl hd rfl hc hr) k
theorem own_icmpNo (X : Stand p l e R s m args below meth c T locs cells slots) (hx : p.tables.exec = Jvm.exec) {cd : ClassFile.Cond} {o : Int} {x y : Int32} (pc' : Nat) (hp : pc + 3 = pc') (hd : decode c.code pc = .ok (.if_icmp cd o, 3)) (hc : if_icmp.holds cd x y = false) (k : own_Go p e below Fe Q (T.setTop (mkF m pc' Ls (st)))) : own_Go p e below Fe Q (T.setTop (mkF m pc Ls (.int y :: .int x :: st))) := by
  subst hp
  exact own_st (fun _ hr => XS.icmpNo X.here hx rfl hd rfl hc hr) k
theorem own_ifnullNo (X : Stand p l e R s m args below meth c T locs cells slots) (hx : p.tables.exec = Jvm.exec) {o : Int} {b : Addr} (pc' : Nat) (hp : pc + 3 = pc') (hd : decode c.code pc = .ok (.ifnull o, 3))  (k : own_Go p e below Fe Q (T.setTop (mkF m pc' Ls (st)))) : own_Go p e below Fe Q (T.setTop (mkF m pc Ls (.ref b :: st))) := by
  subst hp
  exact own_st (fun _ hr => XS.ifnullNo X.here hx rfl hd rfl hr) k
theorem own_ifnonnullNo (X : Stand p l e R s m args below meth c T locs cells slots) (hx : p.tables.exec = Jvm.exec) {o : Int} (pc' : Nat) (hp : pc + 3 = pc') (hd : decode c.code pc = .ok (.ifnonnull o, 3))  (k : own_Go p e below Fe Q (T.setTop (mkF m pc' Ls (st)))) : own_Go p e below Fe Q (T.setTop (mkF m pc Ls (.null :: st))) := by
  subst hp
  exact own_st (fun _ hr => XS.ifnonnullNo X.here hx rfl hd rfl hr) k
theorem own_acmp (X : Stand p l e R s m args below meth c T locs cells slots) (hx : p.tables.exec = Jvm.exec) {cd : ACond} {x y : Value} {o : Int} (same : Bool) (pc' : Nat) (hd : decode c.code pc = .ok (.if_acmp cd o, 3)) (h1 : x.isRef = true) (h2 : y.isRef = true) (hq : decide (x = y) = same) (ho : 0 ≤ (pc : Int) + o) (hp : pc' = if acV cd same = true then ((pc : Int) + o).toNat else pc + 3) (k : own_Go p e below Fe Q (T.setTop (mkF m pc' Ls st))) : own_Go p e below Fe Q (T.setTop (mkF m pc Ls (y :: x :: st))) :=
  own_st (fun _ hr => Jvm.RoadKit.acmp (g := mkF m pc Ls (y :: x :: st)) X hx rfl h1 h2 (pc0 := pc) (pc' := pc') (same := same) rfl hd rfl hq ho hp hr) k
theorem own_tsw (X : Stand p l e R s m args below meth c T locs cells slots) (hx : p.tables.exec = Jvm.exec) {dflt low high : Int} {offs : Array Int} {len : Nat} {i : Int32} {o : Int} (pc' : Nat) (hd : decode c.code pc = .ok (.tableswitch dflt low high offs, len)) (hin : ¬ (i.toInt < low ∨ i.toInt > high)) (hoff : offs[(i.toInt - low).toNat]? = some o) (ho : 0 ≤ (pc : Int) + o) (hp : ((pc : Int) + o).toNat = pc') (k : own_Go p e below Fe Q (T.setTop (mkF m pc' Ls st))) : own_Go p e below Fe Q (T.setTop (mkF m pc Ls (.int i :: st))) :=
  own_st (fun _ hr => XS.tswIn X.here hx rfl rfl hd rfl hin hoff ho hp hr) k
theorem own_ldcI (X : Stand p l e R s m args below meth c T locs cells slots) (hx : p.tables.exec = Jvm.exec) (hZ : Z.Warmed39 s.vm) {own : String} {index : Nat} (hown : s.vm.findClass own = some m.cls) {z : Int32} (w : (Jvm.Cond.constant own index z).before a0 Z = true) (pc' : Nat) (hp : pc + 2 = pc') (hd : decode c.code pc = .ok (.ldc index, 2)) (k : own_Go p e below Fe Q (T.setTop (mkF m pc' Ls (.int z :: st)))) : own_Go p e below Fe Q (T.setTop (mkF m pc Ls st)) := by
  subst hp
  exact own_st (X.ldcInt hx hown (mvT hZ w) (g := mkF m pc Ls st) rfl hd) k
theorem own_ldcWI (X : Stand p l e R s m args below meth c T locs cells slots) (hx : p.tables.exec = Jvm.exec) (hZ : Z.Warmed39 s.vm) {own : String} {index : Nat} (hown : s.vm.findClass own = some m.cls) {z : Int32} (w : (Jvm.Cond.constant own index z).before a0 Z = true) (pc' : Nat) (hp : pc + 3 = pc') (hd : decode c.code pc = .ok (.ldc_w index, 3)) (k : own_Go p e below Fe Q (T.setTop (mkF m pc' Ls (.int z :: st)))) : own_Go p e below Fe Q (T.setTop (mkF m pc Ls st)) := by
  subst hp
  exact own_st (X.ldcwInt hx hown (mvT hZ w) (g := mkF m pc Ls st) rfl hd) k
theorem own_ldcJ (X : Stand p l e R s m args below meth c T locs cells slots) (hx : p.tables.exec = Jvm.exec) (hZ : Z.Warmed39 s.vm) {own : String} {index : Nat} (hown : s.vm.findClass own = some m.cls) {z : Int64} (w : (Jvm.Cond.constantLong own index z).before a0 Z = true) (pc' : Nat) (hp : pc + 3 = pc') (hd : decode c.code pc = .ok (.ldc2_w index, 3)) (k : own_Go p e below Fe Q (T.setTop (mkF m pc' Ls (.long z :: st)))) : own_Go p e below Fe Q (T.setTop (mkF m pc Ls st)) := by
  subst hp
  exact own_st (X.ldc2Long hx hown (mvT hZ w) (g := mkF m pc Ls st) rfl hd) k
theorem own_ldcD (X : Stand p l e R s m args below meth c T locs cells slots) (hx : p.tables.exec = Jvm.exec) (hZ : Z.Warmed39 s.vm) {own : String} {index : Nat} (hown : s.vm.findClass own = some m.cls) {z : UInt64} (w : (Jvm.Cond.constantDouble own index z).before a0 Z = true) (pc' : Nat) (hp : pc + 3 = pc') (hd : decode c.code pc = .ok (.ldc2_w index, 3)) (k : own_Go p e below Fe Q (T.setTop (mkF m pc' Ls (.double z :: st)))) : own_Go p e below Fe Q (T.setTop (mkF m pc Ls st)) := by
  subst hp
  exact own_st (X.ldc2DoubleC hx hown (mvT hZ w) (g := mkF m pc Ls st) rfl hd) k
theorem own_getS (X : Stand p l e R s m args below meth c T locs cells slots) (hx : p.tables.exec = Jvm.exec) (hZ : Z.Warmed39 s.vm) {own R0 O n d host : String} {index : Nat} (hown : s.vm.findClass own = some m.cls) (w : (Jvm.Cond.fieldLink own index R0 n d).before a0 Z = true ∨ (Jvm.Cond.fieldLinkNest own index R0 n d host).before a0 Z = true) (via : Via Z R0 O n d) (eT : T.heap = h) {v : Value} (F : Sta Z h O n d v) (pc' : Nat) (hp : pc + 3 = pc') (hd : decode c.code pc = .ok (.getstatic index, 3))
    (k : ∀ T', Stand p l e R s m args below meth c T' locs cells slots → T'.heap = h → own_Go p e below Fe Q (T'.setTop (mkF m pc' Ls (v :: st)))) : own_Go p e below Fe Q (T.setTop (mkF m pc Ls st)) := by
  subst hp
  obtain ⟨T', X', e', st'⟩ := getS2 X hx hZ hown w via eT F (g := mkF m pc Ls st) rfl hd
  exact own_st st' (k T' X' e')
theorem own_getF (X : Stand p l e R s m args below meth c T locs cells slots) (hx : p.tables.exec = Jvm.exec) (hZ : Z.Warmed39 s.vm) {own R0 O n d host : String} {index : Nat} (hown : s.vm.findClass own = some m.cls) (w : (Jvm.Cond.fieldLink own index R0 n d).before a0 Z = true ∨ (Jvm.Cond.fieldLinkNest own index R0 n d host).before a0 Z = true) (via : Via Z R0 O n d) (eT : T.heap = h) {a : Addr} {v : Value} (F : Fld Z h a O n d v) (pc' : Nat) (hp : pc + 3 = pc') (hd : decode c.code pc = .ok (.getfield index, 3))
    (k : ∀ T', Stand p l e R s m args below meth c T' locs cells slots → T'.heap = h → own_Go p e below Fe Q (T'.setTop (mkF m pc' Ls (v :: st)))) : own_Go p e below Fe Q (T.setTop (mkF m pc Ls (.ref a :: st))) := by
  subst hp
  obtain ⟨T', X', e', st'⟩ := getF X hx hZ hown w via eT F (g := mkF m pc Ls (.ref a :: st)) rfl rfl hd
  exact own_st st' (k T' X' e')
theorem own_putF (X : Stand p l e R s m args below meth c T locs cells slots) (hx : p.tables.exec = Jvm.exec) (hZ : Z.Warmed39 s.vm) {own R0 O n d host C : String} {index kk : Nat} {ty : FieldType} (hown : s.vm.findClass own = some m.cls) (w : (Jvm.Cond.fieldLink own index R0 n d).before a0 Z = true ∨ (Jvm.Cond.fieldLinkNest own index R0 n d host).before a0 Z = true) (via : Via Z R0 O n d) (eT : T.heap = h) {a : Addr} {v old : Value} (F : Fld Z h a O n d old) (E : Exa Z h a C)
    (L : (Jvm.Cond.lays C O n d).before a0 Z = true ∨ ((Jvm.Cond.laysFinal C O n d).before a0 Z = true ∧ own = O ∧ meth.name = "<init>")) (wi : (Jvm.Cond.instantiable C kk).before a0 Z = true) (hty : parseFieldDescriptor d = some ty) (hn : narrow ty v = v) (hf : Jvm.fits ty v = true) (pc' : Nat) (hp : pc + 3 = pc') (hd : decode c.code pc = .ok (.putfield index, 3))
    (k : ∀ T' h', Stand p l e R s m args below meth c T' (locs ++ [⟨a, Jvm.RoadKit.slotOf Z O n d⟩]) cells slots → T'.heap = h' → Wr h h' a (Jvm.RoadKit.slotOf Z O n d) v → own_Go p e below Fe Q (T'.setTop (mkF m pc' Ls st))) : own_Go p e below Fe Q (T.setTop (mkF m pc Ls (v :: .ref a :: st))) := by
  subst hp
  obtain ⟨T', h', X', e', W', st'⟩ := putF X hx hZ hown w via eT F E L wi hty hn hf (g := mkF m pc Ls (v :: .ref a :: st)) rfl rfl hd
  exact own_st st' (k T' h' X' e' W')
theorem own_putFN (X : Stand p l e R s m args below meth c T locs cells slots) (hx : p.tables.exec = Jvm.exec) (hZ : Z.Warmed39 s.vm) {own R0 O n d C : String} {index kk : Nat} {ty : FieldType} (hown : s.vm.findClass own = some m.cls) (w : (Jvm.Cond.fieldLink own index R0 n d).before a0 Z = true) (via : Via Z R0 O n d) (eT : T.heap = h) {a : Addr} {v v' old : Value} (F : Fld Z h a O n d old) (E : Exa Z h a C)
    (L : (Jvm.Cond.lays C O n d).before a0 Z = true ∨ ((Jvm.Cond.laysFinal C O n d).before a0 Z = true ∧ own = O ∧ meth.name = "<init>")) (wi : (Jvm.Cond.instantiable C kk).before a0 Z = true) (hty : parseFieldDescriptor d = some ty) (hn : narrow ty v = v') (hf : Jvm.fits ty v' = true) (pc' : Nat) (hp : pc + 3 = pc') (hd : decode c.code pc = .ok (.putfield index, 3))
    (k : ∀ T' h', Stand p l e R s m args below meth c T' (locs ++ [⟨a, Jvm.RoadKit.slotOf Z O n d⟩]) cells slots → T'.heap = h' → Wr h h' a (Jvm.RoadKit.slotOf Z O n d) v' → own_Go p e below Fe Q (T'.setTop (mkF m pc' Ls st))) : own_Go p e below Fe Q (T.setTop (mkF m pc Ls (v :: .ref a :: st))) := by
  subst hp
  obtain ⟨T', h', X', e', W', st'⟩ := putFN X hx hZ hown w via eT F E L wi hty hn hf (g := mkF m pc Ls (v :: .ref a :: st)) rfl rfl hd
  exact own_st st' (k T' h' X' e' W')
theorem own_new (X : Stand p l e R s m args below meth c T locs cells slots) (hx : p.tables.exec = Jvm.exec) (hZ : Z.Warmed39 s.vm) {own C : String} {index n : Nat} (hown : s.vm.findClass own = some m.cls) (w : (Jvm.Cond.classLink own index C).before a0 Z = true) (wi : (Jvm.Cond.instantiable C n).before a0 Z = true) (wz : (Jvm.Cond.initialized C).before a0 Z = true) (eT : T.heap = h) (pc' : Nat) (hp : pc + 3 = pc') (hd : decode c.code pc = .ok (.new index, 3)) (hc : cells + 1 ≤ R.cells) (hl : slots + n ≤ R.slots)
    (k : ∀ T' h' b, b = h.size → Stand p l e R s m args below meth c T' locs (cells + 1) (slots + n) → T'.heap = h' → Ext h h' → Exa Z h' b C → (∀ {O nm d : String} {ty : FieldType}, Laid Z a0 C O nm d → parseFieldDescriptor d = some ty → Fld Z h' b O nm d (defaultValue ty)) → own_Go p e below Fe Q (T'.setTop (mkF m pc' Ls (.ref b :: st)))) : own_Go p e below Fe Q (T.setTop (mkF m pc Ls st)) := by
  subst hp
  obtain ⟨T', h', X', e', E', A', D', -, st'⟩ := newO X hx hZ hown w wi wz eT (g := mkF m pc Ls st) rfl hd hc hl
  exact own_st st' (k T' h' _ rfl X' e' E' A' D')
theorem own_newA (X : Stand p l e R s m args below meth c T locs cells slots) (hx : p.tables.exec = Jvm.exec) (hZ : Z.Warmed39 s.vm) {aty : ArrayType} (w : (Jvm.Cond.arrayClass (newarray.typeOf aty)).before a0 Z = true) (eT : T.heap = h) {n : Int32} (pc' : Nat) (hp : pc + 2 = pc') (hd : decode c.code pc = .ok (.newarray aty, 2)) (hn : ¬ n < 0) (cap : Nat) (hcap : n.toNatClampNeg ≤ cap) (hb : cap * 8 ≤ 536870912) (hc : cells + 1 ≤ R.cells) (hl : slots + cap ≤ R.slots) (ad : String) (had : "[" ++ (newarray.typeOf aty).toString = ad)
    (k : ∀ T' h' cA b, b = h.size → Stand p l e R s m args below meth c T' locs (cells + 1) (slots + cap) → T'.heap = h' → Ext h h' → Arr Z h' b (newA cA (newarray.typeOf aty) n) (newarray.typeOf aty) → Exa Z h' b ad → own_Go p e below Fe Q (T'.setTop (mkF m pc' Ls (.ref b :: st)))) : own_Go p e below Fe Q (T.setTop (mkF m pc Ls (.int n :: st))) := by
  subst hp
  obtain ⟨T', h', cA, X', e', E', A', C', st'⟩ := newPE X hx hZ w eT (g := mkF m pc Ls (.int n :: st)) rfl hd rfl hn hcap hb hc hl had
  exact own_st st' (k T' h' cA _ rfl X' e' E' A' C')
theorem own_stI (X : Stand p l e R s m args below meth c T locs cells slots) (hx : p.tables.exec = Jvm.exec) (hZ : Z.Warmed39 s.vm) (eT : T.heap = h) {a : Addr} {kA : ClassId} {n : Int32} {vs : List Value} {dv : Value} (F : Arv Z h a kA .int n vs dv) {j : Int32} {x : Int32} (hj : ¬ j < 0 ∧ j < n) (i : Nat) (hi : j.toNatClampNeg = i) (hl : i < vs.length) (vs' : List Value) (hvs : vs.set i (.int x) = vs') (pc' : Nat) (hp : pc + 1 = pc') (hd : decode c.code pc = .ok (.iastore, 1))
    (k : ∀ T' h', Stand p l e R s m args below meth c T' (locs ++ [⟨a, j.toNatClampNeg⟩]) cells slots → T'.heap = h' → Wr h h' a j.toNatClampNeg (.int x) → Arv Z h' a kA .int n vs' dv → own_Go p e below Fe Q (T'.setTop (mkF m pc' Ls st))) : own_Go p e below Fe Q (T.setTop (mkF m pc Ls (.int x :: .int j :: .ref a :: st))) := by
  subst hp; subst hvs
  obtain ⟨cl, Ar, q, S, N1, H, G⟩ := F
  have hin := inb_of S hj
  obtain ⟨T', h', X', e', W', st'⟩ := stI X hx hZ eT Ar (j := j) hin (g := mkF m pc Ls (.int x :: .int j :: .ref a :: st)) rfl rfl hd
  exact own_st st' (k T' h' X' e' W' (Arv.set Ar q S N1 H G rfl W' i hi hl))
theorem own_stJ (X : Stand p l e R s m args below meth c T locs cells slots) (hx : p.tables.exec = Jvm.exec) (hZ : Z.Warmed39 s.vm) (eT : T.heap = h) {a : Addr} {kA : ClassId} {n : Int32} {vs : List Value} {dv : Value} (F : Arv Z h a kA .long n vs dv) {j : Int32} {x : Int64} (hj : ¬ j < 0 ∧ j < n) (i : Nat) (hi : j.toNatClampNeg = i) (hl : i < vs.length) (vs' : List Value) (hvs : vs.set i (.long x) = vs') (pc' : Nat) (hp : pc + 1 = pc') (hd : decode c.code pc = .ok (.lastore, 1))
    (k : ∀ T' h', Stand p l e R s m args below meth c T' (locs ++ [⟨a, j.toNatClampNeg⟩]) cells slots → T'.heap = h' → Wr h h' a j.toNatClampNeg (.long x) → Arv Z h' a kA .long n vs' dv → own_Go p e below Fe Q (T'.setTop (mkF m pc' Ls st))) : own_Go p e below Fe Q (T.setTop (mkF m pc Ls (.long x :: .int j :: .ref a :: st))) := by
  subst hp; subst hvs
  obtain ⟨cl, Ar, q, S, N1, H, G⟩ := F
  have hin := inb_of S hj
  obtain ⟨T', h', X', e', W', st'⟩ := stJ X hx hZ eT Ar (j := j) hin (g := mkF m pc Ls (.long x :: .int j :: .ref a :: st)) rfl rfl hd
  exact own_st st' (k T' h' X' e' W' (Arv.set Ar q S N1 H G rfl W' i hi hl))
theorem own_stD (X : Stand p l e R s m args below meth c T locs cells slots) (hx : p.tables.exec = Jvm.exec) (hZ : Z.Warmed39 s.vm) (eT : T.heap = h) {a : Addr} {kA : ClassId} {n : Int32} {vs : List Value} {dv : Value} (F : Arv Z h a kA .double n vs dv) {j : Int32} {x : UInt64} (hj : ¬ j < 0 ∧ j < n) (i : Nat) (hi : j.toNatClampNeg = i) (hl : i < vs.length) (vs' : List Value) (hvs : vs.set i (.double x) = vs') (pc' : Nat) (hp : pc + 1 = pc') (hd : decode c.code pc = .ok (.dastore, 1))
    (k : ∀ T' h', Stand p l e R s m args below meth c T' (locs ++ [⟨a, j.toNatClampNeg⟩]) cells slots → T'.heap = h' → Wr h h' a j.toNatClampNeg (.double x) → Arv Z h' a kA .double n vs' dv → own_Go p e below Fe Q (T'.setTop (mkF m pc' Ls st))) : own_Go p e below Fe Q (T.setTop (mkF m pc Ls (.double x :: .int j :: .ref a :: st))) := by
  subst hp; subst hvs
  obtain ⟨cl, Ar, q, S, N1, H, G⟩ := F
  have hin := inb_of S hj
  obtain ⟨T', h', X', e', W', st'⟩ := stD X hx hZ eT Ar (j := j) hin (g := mkF m pc Ls (.double x :: .int j :: .ref a :: st)) rfl rfl hd
  exact own_st st' (k T' h' X' e' W' (Arv.set Ar q S N1 H G rfl W' i hi hl))
theorem own_stB (X : Stand p l e R s m args below meth c T locs cells slots) (hx : p.tables.exec = Jvm.exec) (hZ : Z.Warmed39 s.vm) (eT : T.heap = h) {a : Addr} {kA : ClassId} {n : Int32} {vs : List Value} {dv : Value} (F : Arv Z h a kA .byte n vs dv) {j : Int32} {x : Int32} (hj : ¬ j < 0 ∧ j < n) (i : Nat) (hi : j.toNatClampNeg = i) (hl : i < vs.length) (vs' : List Value) (hvs : vs.set i (.int x.toInt8.toInt32) = vs') (pc' : Nat) (hp : pc + 1 = pc') (hd : decode c.code pc = .ok (.bastore, 1))
    (k : ∀ T' h', Stand p l e R s m args below meth c T' (locs ++ [⟨a, j.toNatClampNeg⟩]) cells slots → T'.heap = h' → Wr h h' a j.toNatClampNeg (.int x.toInt8.toInt32) → Arv Z h' a kA .byte n vs' dv → own_Go p e below Fe Q (T'.setTop (mkF m pc' Ls st))) : own_Go p e below Fe Q (T.setTop (mkF m pc Ls (.int x :: .int j :: .ref a :: st))) := by
  subst hp; subst hvs
  obtain ⟨cl, Ar, q, S, N1, H, G⟩ := F
  have hin := inb_of S hj
  obtain ⟨T', h', X', e', W', st'⟩ := stB X hx hZ eT Ar (j := j) hin (g := mkF m pc Ls (.int x :: .int j :: .ref a :: st)) rfl rfl hd
  exact own_st st' (k T' h' X' e' W' (Arv.set Ar q S N1 H G (fits_nar_byte x) W' i hi hl))
theorem own_stZ (X : Stand p l e R s m args below meth c T locs cells slots) (hx : p.tables.exec = Jvm.exec) (hZ : Z.Warmed39 s.vm) (eT : T.heap = h) {a : Addr} {kA : ClassId} {n : Int32} {vs : List Value} {dv : Value} (F : Arv Z h a kA .boolean n vs dv) {j : Int32} {x : Int32} (hj : ¬ j < 0 ∧ j < n) (i : Nat) (hi : j.toNatClampNeg = i) (hl : i < vs.length) (vs' : List Value) (hvs : vs.set i (.int (nar .boolean x)) = vs') (pc' : Nat) (hp : pc + 1 = pc') (hd : decode c.code pc = .ok (.bastore, 1))
    (k : ∀ T' h', Stand p l e R s m args below meth c T' (locs ++ [⟨a, j.toNatClampNeg⟩]) cells slots → T'.heap = h' → Wr h h' a j.toNatClampNeg (.int (nar .boolean x)) → Arv Z h' a kA .boolean n vs' dv → own_Go p e below Fe Q (T'.setTop (mkF m pc' Ls st))) : own_Go p e below Fe Q (T.setTop (mkF m pc Ls (.int x :: .int j :: .ref a :: st))) := by
  subst hp; subst hvs
  obtain ⟨cl, Ar, q, S, N1, H, G⟩ := F
  have hin := inb_of S hj
  obtain ⟨T', h', X', e', W', st'⟩ := stZ X hx hZ eT Ar (j := j) hin (g := mkF m pc Ls (.int x :: .int j :: .ref a :: st)) rfl rfl hd
  exact own_st st' (k T' h' X' e' W' (Arv.set Ar q S N1 H G (fits_nar_bool x) W' i hi hl))
theorem own_stC (X : Stand p l e R s m args below meth c T locs cells slots) (hx : p.tables.exec = Jvm.exec) (hZ : Z.Warmed39 s.vm) (eT : T.heap = h) {a : Addr} {kA : ClassId} {n : Int32} {vs : List Value} {dv : Value} (F : Arv Z h a kA .char n vs dv) {j : Int32} {x : Int32} (hj : ¬ j < 0 ∧ j < n) (i : Nat) (hi : j.toNatClampNeg = i) (hl : i < vs.length) (vs' : List Value) (hvs : vs.set i (.int (nar .char x)) = vs') (pc' : Nat) (hp : pc + 1 = pc') (hd : decode c.code pc = .ok (.castore, 1))
    (k : ∀ T' h', Stand p l e R s m args below meth c T' (locs ++ [⟨a, j.toNatClampNeg⟩]) cells slots → T'.heap = h' → Wr h h' a j.toNatClampNeg (.int (nar .char x)) → Arv Z h' a kA .char n vs' dv → own_Go p e below Fe Q (T'.setTop (mkF m pc' Ls st))) : own_Go p e below Fe Q (T.setTop (mkF m pc Ls (.int x :: .int j :: .ref a :: st))) := by
  subst hp; subst hvs
  obtain ⟨cl, Ar, q, S, N1, H, G⟩ := F
  have hin := inb_of S hj
  obtain ⟨T', h', X', e', W', st'⟩ := stC X hx hZ eT Ar (j := j) hin (g := mkF m pc Ls (.int x :: .int j :: .ref a :: st)) rfl rfl hd
  exact own_st st' (k T' h' X' e' W' (Arv.set Ar q S N1 H G (fits_nar_char x) W' i hi hl))
theorem own_ldI (X : Stand p l e R s m args below meth c T locs cells slots) (hx : p.tables.exec = Jvm.exec) (hZ : Z.Warmed39 s.vm) (eT : T.heap = h) {a : Addr} {kA : ClassId} {n : Int32} {vs : List Value} {dv : Value} (F : Arv Z h a kA .int n vs dv) {j : Int32} (hj : ¬ j < 0 ∧ j < n) (x : Int32) (hv : vs.getD j.toNatClampNeg dv = (.int x)) (pc' : Nat) (hp : pc + 1 = pc') (hd : decode c.code pc = .ok (.iaload, 1))
    (k : own_Go p e below Fe Q (T.setTop (mkF m pc' Ls (.int x :: st)))) : own_Go p e below Fe Q (T.setTop (mkF m pc Ls (.int j :: .ref a :: st))) := by
  subst hp
  obtain ⟨cl, Ar, q, S, N1, H, G⟩ := F
  have hin := inb_of S hj
  exact own_st (X.iaload hx (j := j) (v := .int x) (by rw [eT]; exact Ar.1) (State.isArrayOf_alike hZ.alike Ar.2.1) Ar.2.2 hin (Has.at H hin hv) (g := mkF m pc Ls (.int j :: .ref a :: st)) rfl rfl hd) k
theorem own_ldD (X : Stand p l e R s m args below meth c T locs cells slots) (hx : p.tables.exec = Jvm.exec) (hZ : Z.Warmed39 s.vm) (eT : T.heap = h) {a : Addr} {kA : ClassId} {n : Int32} {vs : List Value} {dv : Value} (F : Arv Z h a kA .double n vs dv) {j : Int32} (hj : ¬ j < 0 ∧ j < n) (x : UInt64) (hv : vs.getD j.toNatClampNeg dv = (.double x)) (pc' : Nat) (hp : pc + 1 = pc') (hd : decode c.code pc = .ok (.daload, 1))
    (k : own_Go p e below Fe Q (T.setTop (mkF m pc' Ls (.double x :: st)))) : own_Go p e below Fe Q (T.setTop (mkF m pc Ls (.int j :: .ref a :: st))) := by
  subst hp
  obtain ⟨cl, Ar, q, S, N1, H, G⟩ := F
  have hin := inb_of S hj
  exact own_st (X.daload hx (j := j) (v := .double x) (by rw [eT]; exact Ar.1) (State.isArrayOf_alike hZ.alike Ar.2.1) Ar.2.2 hin (Has.at H hin hv) (g := mkF m pc Ls (.int j :: .ref a :: st)) rfl rfl hd) k
theorem own_ldJ (X : Stand p l e R s m args below meth c T locs cells slots) (hx : p.tables.exec = Jvm.exec) (hZ : Z.Warmed39 s.vm) (eT : T.heap = h) {a : Addr} {kA : ClassId} {n : Int32} {vs : List Value} {dv : Value} (F : Arv Z h a kA .long n vs dv) {j : Int32} (hj : ¬ j < 0 ∧ j < n) (x : Int64) (hv : vs.getD j.toNatClampNeg dv = (.long x)) (pc' : Nat) (hp : pc + 1 = pc') (hd : decode c.code pc = .ok (.laload, 1))
    (k : own_Go p e below Fe Q (T.setTop (mkF m pc' Ls (.long x :: st)))) : own_Go p e below Fe Q (T.setTop (mkF m pc Ls (.int j :: .ref a :: st))) := by
  subst hp
  obtain ⟨cl, Ar, q, S, N1, H, G⟩ := F
  have hin := inb_of S hj
  exact own_st (X.laload hx (j := j) (v := .long x) (by rw [eT]; exact Ar.1) (State.isArrayOf_alike hZ.alike Ar.2.1) Ar.2.2 hin (Has.at H hin hv) (g := mkF m pc Ls (.int j :: .ref a :: st)) rfl rfl hd) k
theorem own_len (X : Stand p l e R s m args below meth c T locs cells slots) (hx : p.tables.exec = Jvm.exec) (hZ : Z.Warmed39 s.vm) (eT : T.heap = h) {a : Addr} {kA : ClassId} {ty : FieldType} {n : Int32} {vs : List Value} {dv : Value} (F : Arv Z h a kA ty n vs dv) (pc' : Nat) (hp : pc + 1 = pc') (hd : decode c.code pc = .ok (.arraylength, 1))
    (k : own_Go p e below Fe Q (T.setTop (mkF m pc' Ls (.int n :: st)))) : own_Go p e below Fe Q (T.setTop (mkF m pc Ls (.ref a :: st))) := by
  subst hp
  obtain ⟨cl, Ar, q, S, N1, H, G⟩ := F
  refine own_st (X.arraylength hx (by rw [eT]; exact Ar.1) (State.isArrayOf_alike hZ.alike Ar.2.1) (g := mkF m pc Ls (.ref a :: st)) rfl rfl hd) ?_
  rw [len_of S N1]
  exact k
theorem own_initO (X : Stand p l e R s m args below meth c T locs cells slots) (hx : p.tables.exec = Jvm.exec) (hZ : Z.Warmed39 s.vm) {own : String} {idx : Nat} (hown : s.vm.findClass own = some m.cls) (w1 : (Jvm.Cond.methodLink own idx Lib.objectInit).before a0 Z = true) (w2 : (Jvm.Cond.instanceMethod Lib.objectInit).before a0 Z = true) (w3 : (Jvm.Cond.code Lib.objectInit ⟨#[0xb1]⟩ 1 none).before a0 Z = true) (eT : T.heap = h) (hsize : Ls.size = c.maxLocals) {a : Addr} (pc' : Nat) (hp : pc + 3 = pc') (hd : decode c.code pc = .ok (.invokespecial idx, 3)) (hf : 1 ≤ R.frames) (W : Nat) (hW : 2 * 0 + (st.map fun v => v.category).sum ≤ W) (hl : W + 12 ≤ R.locals)
    (k : ∀ T', Stand p l e R s m args below meth c T' locs cells slots → T'.heap = h → own_Go p e below Fe Q (T'.setTop (mkF m pc' Ls st))) : own_Go p e below Fe Q (T.setTop (mkF m pc Ls (.ref a :: st))) := by
  subst hp
  obtain ⟨T', X', e', st'⟩ := initO X hx hZ hown w1 w2 w3 eT (g := mkF m pc Ls (.ref a :: st)) rfl hsize rfl hd hf hW hl
  exact own_st st' (k T' X' e')
theorem own_callS (X : Stand p l e R s m args below meth c T locs cells slots) (hx : p.tables.exec = Jvm.exec) (hZ : Z.Warmed39 s.vm) {own : String} {index : Nat} {y : MethodName} (hown : s.vm.findClass own = some m.cls) (w1 : (Jvm.Cond.methodLink own index y).before a0 Z = true) (w2 : (Jvm.Cond.static y).before a0 Z = true) (hy : y.cls ≠ "java/lang/invoke/MethodHandle" ∧ y.cls ≠ "java/lang/invoke/VarHandle") {bytes : ByteArray} {maxL : Nat} {ret : Option FieldType} {rm : Room} {as' : Array Value} {Q' : Option Value → Heap → List Loc → Prop} (hM : MetFree l y (head1 [Jvm.Cond.code y bytes maxL ret] rm) (fun a U => a = as' ∧ Z.Warmed39 U.vm ∧ U.heap = h) (fun _ _ _ _ _ => True) (fun _ U o U' => ∃ v L, o = .returned v ∧ Q' v U'.heap L ∧ FrameEnd U o U' L rm.cells rm.slots)) (wc : (Jvm.Cond.code y bytes maxL ret).before a0 Z = true) (wz : (Jvm.Cond.initialized y.cls).before a0 Z = true) (hfr : rm.frames + 1 ≤ R.frames) (eT : T.heap = h) (hsize : Ls.size = c.maxLocals) (argsL : List Value) {rest : List Value} (W : Nat) (hlo : W + (maxL + 11) + rm.locals ≤ R.locals) (hW : 2 * 0 + (rest.map fun v => v.category).sum ≤ W) (hcells : cells + rm.cells ≤ R.cells) (hslots : slots + rm.slots ≤ R.slots) (hlen : ∀ sig, parseMethodDescriptor y.desc = some sig → argsL.length = sig.parameters.length) (hst : st = argsL.reverse ++ rest) (has : argsL.toArray = as') (pc' : Nat) (hp : pc + 3 = pc') (hd : decode c.code pc = .ok (.invokestatic index, 3))
    (k : ∀ v T' Lc, Stand p l e R s m args below meth c T' (locs ++ Lc) (cells + rm.cells) (slots + rm.slots) → Q' v T'.heap Lc → own_Go p e below Fe Q (T'.setTop (mkF m pc' Ls (v.toList ++ rest)))) : own_Go p e below Fe Q (T.setTop (mkF m pc Ls st)) := by
  subst hp
  obtain ⟨v, _, ⟨T', L', k', n'⟩, -, X', ⟨Lc, hQ, l1, l2, l3⟩, st'⟩ := Jvm.LawKit.callS X hx (y := y) hown (mvT hZ w1) (mvT hZ w2) (mvT hZ wz) (mvT hZ wc) hy (backOf (W := W) hM hZ wc wz hfr hlo) (g := mkF m pc Ls st) rfl hsize (argsL := argsL) (rest := rest) hlen hst hW hd (fun _ _ => ⟨has, eT, hcells, hslots⟩)
  dsimp only [Pt.U, Pt.locs, Pt.cells, Pt.slots] at X' l1 l2 l3 st' hQ
  subst l1 l2 l3
  exact own_st st' (k v T' Lc X' hQ)
theorem own_special (X : Stand p l e R s m args below meth c T locs cells slots) (hx : p.tables.exec = Jvm.exec) (hZ : Z.Warmed39 s.vm) {own : String} {index : Nat} {y : MethodName} (hown : s.vm.findClass own = some m.cls) (hy1 : y.name = "<init>") (w1 : (Jvm.Cond.methodLink own index y).before a0 Z = true) (w2 : (Jvm.Cond.instanceMethod y).before a0 Z = true) {a : Addr} (hy : y.cls ≠ "java/lang/invoke/MethodHandle" ∧ y.cls ≠ "java/lang/invoke/VarHandle") {bytes : ByteArray} {maxL : Nat} {ret : Option FieldType} {rm : Room} {as' : Array Value} {Q' : Option Value → Heap → List Loc → Prop} (hret : ret = none) (hM : MetFree l y (head1 [Jvm.Cond.code y bytes maxL ret] rm) (fun a U => a = as' ∧ Z.Warmed39 U.vm ∧ U.heap = h) (fun _ _ _ _ _ => True) (fun _ U o U' => ∃ v L, o = .returned v ∧ Q' v U'.heap L ∧ FrameEnd U o U' L rm.cells rm.slots)) (wc : (Jvm.Cond.code y bytes maxL ret).before a0 Z = true) (wz : (Jvm.Cond.initialized y.cls).before a0 Z = true) (hfr : rm.frames + 1 ≤ R.frames) (eT : T.heap = h) (hsize : Ls.size = c.maxLocals) (argsL : List Value) {rest : List Value} (W : Nat) (hlo : W + (maxL + 11) + rm.locals ≤ R.locals) (hW : 2 * 0 + (rest.map fun v => v.category).sum ≤ W) (hcells : cells + rm.cells ≤ R.cells) (hslots : slots + rm.slots ≤ R.slots) (hlen : ∀ sig, parseMethodDescriptor y.desc = some sig → argsL.length = sig.parameters.length) (hst : st = argsL.reverse ++ .ref a :: rest) (has : (.ref a :: argsL).toArray = as') (pc' : Nat) (hp : pc + 3 = pc') (hd : decode c.code pc = .ok (.invokespecial index, 3))
    (k : ∀ v T' Lc, Stand p l e R s m args below meth c T' (locs ++ Lc) (cells + rm.cells) (slots + rm.slots) → Q' v T'.heap Lc → own_Go p e below Fe Q (T'.setTop (mkF m pc' Ls (v.toList ++ rest)))) : own_Go p e below Fe Q (T.setTop (mkF m pc Ls st)) := by
  subst hp
  obtain ⟨v, _, ⟨T', L', k', n'⟩, -, X', ⟨Lc, hQ, l1, l2, l3⟩, st'⟩ := X.specialBack hx (y := y) hy1 hown (mvT hZ w1) (mvT hZ w2) (mvT hZ (hret ▸ wc)) hy (backOf (W := W) hM hZ wc wz hfr hlo) (g := mkF m pc Ls st) rfl hsize (Steps.refl _) (a := a) (argsL := argsL) (rest := rest) hlen hst hW hd (fun _ _ => ⟨has, eT, hcells, hslots⟩)
  dsimp only [Pt.U, Pt.locs, Pt.cells, Pt.slots] at X' l1 l2 l3 st' hQ
  subst l1 l2 l3
  exact own_tr st' (k v T' Lc X' hQ)
theorem own_virtual (X : Stand p l e R s m args below meth c T locs cells slots) (hx : p.tables.exec = Jvm.exec) (hZ : Z.Warmed39 s.vm) {own : String} {index : Nat} {C : String} {y z : MethodName} (hown : s.vm.findClass own = some m.cls) (w1 : (Jvm.Cond.methodLink own index y).before a0 Z = true) (w2 : (Jvm.Cond.declares y).before a0 Z = true) (w3 : (Jvm.Cond.selects C y z).before a0 Z = true) (w4 : (Jvm.Cond.instanceMethod z).before a0 Z = true) (hyz : y = z) {a : Addr} (E : Exa Z h a C) (hy : y.cls ≠ "java/lang/invoke/MethodHandle" ∧ y.cls ≠ "java/lang/invoke/VarHandle") {bytes : ByteArray} {maxL : Nat} {ret : Option FieldType} {rm : Room} {as' : Array Value} {Q' : Option Value → Heap → List Loc → Prop} (hM : MetFree l z (head1 [Jvm.Cond.code z bytes maxL ret] rm) (fun a U => a = as' ∧ Z.Warmed39 U.vm ∧ U.heap = h) (fun _ _ _ _ _ => True) (fun _ U o U' => ∃ v L, o = .returned v ∧ Q' v U'.heap L ∧ FrameEnd U o U' L rm.cells rm.slots)) (wc : (Jvm.Cond.code z bytes maxL ret).before a0 Z = true) (wz : (Jvm.Cond.initialized z.cls).before a0 Z = true) (hfr : rm.frames + 1 ≤ R.frames) (eT : T.heap = h) (hsize : Ls.size = c.maxLocals) (argsL : List Value) {rest : List Value} (W : Nat) (hlo : W + (maxL + 11) + rm.locals ≤ R.locals) (hW : 2 * 0 + (rest.map fun v => v.category).sum ≤ W) (hcells : cells + rm.cells ≤ R.cells) (hslots : slots + rm.slots ≤ R.slots) (hlen : ∀ sig, parseMethodDescriptor y.desc = some sig → argsL.length = sig.parameters.length) (hst : st = argsL.reverse ++ .ref a :: rest) (has : (.ref a :: argsL).toArray = as') (pc' : Nat) (hp : pc + 3 = pc') (hd : decode c.code pc = .ok (.invokevirtual index, 3))
    (k : ∀ v T' Lc, Stand p l e R s m args below meth c T' (locs ++ Lc) (cells + rm.cells) (slots + rm.slots) → Q' v T'.heap Lc → own_Go p e below Fe Q (T'.setTop (mkF m pc' Ls (v.toList ++ rest)))) : own_Go p e below Fe Q (T.setTop (mkF m pc Ls st)) := by
  subst hp
  obtain ⟨cB, kB, qa, qb, qc⟩ := isOf hZ eT E
  obtain ⟨v, _, ⟨T', L', k', n'⟩, -, X', ⟨Lc, hQ, l1, l2, l3⟩, st'⟩ := X.virtualBack hx (y := y) (z := z) hown (mvT hZ w1) (mvT hZ w2) (hyz ▸ notFace_of_selects (args := #[]) (mvT hZ (hyz ▸ w3 : (Jvm.Cond.selects C z z).before a0 Z = true))) (mvT hZ w3) (mvT hZ w4) hy (backOf (W := W) hM hZ wc wz hfr hlo) qa qc (g := mkF m pc Ls st) rfl hsize (Steps.refl _) (argsL := argsL) (rest := rest) hlen hst hW hd (fun _ _ => ⟨has, eT, hcells, hslots⟩)
  dsimp only [Pt.U, Pt.locs, Pt.cells, Pt.slots] at X' l1 l2 l3 st' hQ
  subst l1 l2 l3
  exact own_tr st' (k v T' Lc X' hQ)
theorem own_virtualUp (X : Stand p l e R s m args below meth c T locs cells slots) (hx : p.tables.exec = Jvm.exec) (hZ : Z.Warmed39 s.vm) {own : String} {index : Nat} {C owner : String} {x y : MethodName} (hown : s.vm.findClass own = some m.cls) (w1 : (Jvm.Cond.methodLink own index x).before a0 Z = true) (w2 : (Jvm.Cond.sameMethod x.cls owner x.name x.desc).before a0 Z = true) (w2' : (Jvm.Cond.declares ⟨owner, x.name, x.desc⟩).before a0 Z = true) (w3 : (Jvm.Cond.selects C x y).before a0 Z = true) (w4 : (Jvm.Cond.instanceMethod y).before a0 Z = true) {a : Addr} (E : Exa Z h a C) (ho : owner ≠ "java/lang/invoke/MethodHandle" ∧ owner ≠ "java/lang/invoke/VarHandle") {bytes : ByteArray} {maxL : Nat} {ret : Option FieldType} {rm : Room} {as' : Array Value} {Q' : Option Value → Heap → List Loc → Prop} (hM : MetFree l y (head1 [Jvm.Cond.code y bytes maxL ret] rm) (fun a U => a = as' ∧ Z.Warmed39 U.vm ∧ U.heap = h) (fun _ _ _ _ _ => True) (fun _ U o U' => ∃ v L, o = .returned v ∧ Q' v U'.heap L ∧ FrameEnd U o U' L rm.cells rm.slots)) (wc : (Jvm.Cond.code y bytes maxL ret).before a0 Z = true) (wz : (Jvm.Cond.initialized y.cls).before a0 Z = true) (hfr : rm.frames + 1 ≤ R.frames) (eT : T.heap = h) (hsize : Ls.size = c.maxLocals) (argsL : List Value) {rest : List Value} (W : Nat) (hlo : W + (maxL + 11) + rm.locals ≤ R.locals) (hW : 2 * 0 + (rest.map fun v => v.category).sum ≤ W) (hcells : cells + rm.cells ≤ R.cells) (hslots : slots + rm.slots ≤ R.slots) (hlen : ∀ sig, parseMethodDescriptor x.desc = some sig → argsL.length = sig.parameters.length) (hst : st = argsL.reverse ++ .ref a :: rest) (has : (.ref a :: argsL).toArray = as') (pc' : Nat) (hp : pc + 3 = pc') (hd : decode c.code pc = .ok (.invokevirtual index, 3))
    (k : ∀ v T' Lc, Stand p l e R s m args below meth c T' (locs ++ Lc) (cells + rm.cells) (slots + rm.slots) → Q' v T'.heap Lc → own_Go p e below Fe Q (T'.setTop (mkF m pc' Ls (v.toList ++ rest)))) : own_Go p e below Fe Q (T.setTop (mkF m pc Ls st)) := by
  subst hp
  obtain ⟨cB, kB, qa, qb, qc⟩ := isOf hZ eT E
  obtain ⟨v, _, ⟨T', L', k', n'⟩, -, X', ⟨Lc, hQ, l1, l2, l3⟩, st'⟩ := X.virtualBackUp hx (x := x) (y := y) (owner := owner) hown (mvT hZ w1) (mvT hZ w2) (mvT hZ w2') ho (mvT hZ w3) (mvT hZ w4) (backOf (W := W) hM hZ wc wz hfr hlo) qa qc (g := mkF m pc Ls st) rfl hsize (Steps.refl _) (argsL := argsL) (rest := rest) hlen hst hW hd (fun _ _ => ⟨has, eT, hcells, hslots⟩)
  dsimp only [Pt.U, Pt.locs, Pt.cells, Pt.slots] at X' l1 l2 l3 st' hQ
  subst l1 l2 l3
  exact own_tr st' (k v T' Lc X' hQ)
theorem own_private (X : Stand p l e R s m args below meth c T locs cells slots) (hx : p.tables.exec = Jvm.exec) (hZ : Z.Warmed39 s.vm) {own : String} {index : Nat} {y z : MethodName} (hown : s.vm.findClass own = some m.cls) (w1 : (Jvm.Cond.methodLink own index y).before a0 Z = true) (w2 : (Jvm.Cond.instanceMethod y).before a0 Z = true) (hz : z.cls = y.cls) (w3 : (Jvm.Cond.selects z.cls z z).before a0 Z = true) (w4 : (Jvm.Cond.privateMethod y).before a0 Z = true) {a : Addr} (E : Exa Z h a y.cls) (hy : y.cls ≠ "java/lang/invoke/MethodHandle" ∧ y.cls ≠ "java/lang/invoke/VarHandle") {bytes : ByteArray} {maxL : Nat} {ret : Option FieldType} {rm : Room} {as' : Array Value} {Q' : Option Value → Heap → List Loc → Prop} (hM : MetFree l y (head1 [Jvm.Cond.code y bytes maxL ret] rm) (fun a U => a = as' ∧ Z.Warmed39 U.vm ∧ U.heap = h) (fun _ _ _ _ _ => True) (fun _ U o U' => ∃ v L, o = .returned v ∧ Q' v U'.heap L ∧ FrameEnd U o U' L rm.cells rm.slots)) (wc : (Jvm.Cond.code y bytes maxL ret).before a0 Z = true) (wz : (Jvm.Cond.initialized y.cls).before a0 Z = true) (hfr : rm.frames + 1 ≤ R.frames) (eT : T.heap = h) (hsize : Ls.size = c.maxLocals) (argsL : List Value) {rest : List Value} (W : Nat) (hlo : W + (maxL + 11) + rm.locals ≤ R.locals) (hW : 2 * 0 + (rest.map fun v => v.category).sum ≤ W) (hcells : cells + rm.cells ≤ R.cells) (hslots : slots + rm.slots ≤ R.slots) (hlen : ∀ sig, parseMethodDescriptor y.desc = some sig → argsL.length = sig.parameters.length) (hst : st = argsL.reverse ++ .ref a :: rest) (has : (.ref a :: argsL).toArray = as') (pc' : Nat) (hp : pc + 3 = pc') (hd : decode c.code pc = .ok (.invokevirtual index, 3))
    (k : ∀ v T' Lc, Stand p l e R s m args below meth c T' (locs ++ Lc) (cells + rm.cells) (slots + rm.slots) → Q' v T'.heap Lc → own_Go p e below Fe Q (T'.setTop (mkF m pc' Ls (v.toList ++ rest)))) : own_Go p e below Fe Q (T.setTop (mkF m pc Ls st)) := by
  subst hp
  obtain ⟨cq, q1, q2⟩ := E.cell
  have hsel : (Jvm.Cond.selects y.cls y y).before args s = true := by
    obtain ⟨c2, r2, m2, -, -, q3, -, kP, hkP, hkPi⟩ := Cond.selects_spec (mvT hZ w3 : (Jvm.Cond.selects z.cls z z).before args s = true)
    exact selects_self_of_private (hz ▸ findClass_of_methodNamed q3) hkP hkPi (Cond.privateMethod_at (mvP hZ w4 (args := #[]))) (mvT hZ w2) hy
  obtain ⟨v, _, ⟨T', L', k', n'⟩, -, X', ⟨Lc, hQ, l1, l2, l3⟩, st'⟩ := X.privateBack hx (y := y) hown (mvT hZ w1) (mvT hZ w2) hsel (Cond.privateMethod_at (mvP hZ w4 (args := #[]))) (mvT hZ wc) hy (backOf (W := W) hM hZ wc wz hfr hlo) (g := mkF m pc Ls st) rfl hsize (Steps.refl _) (a := a) (by rw [eT]; exact q1) q2 (argsL := argsL) (rest := rest) hlen hst hW hd (fun _ _ => ⟨has, eT, hcells, hslots⟩)
  dsimp only [Pt.U, Pt.locs, Pt.cells, Pt.slots] at X' l1 l2 l3 st' hQ
  subst l1 l2 l3
  exact own_tr st' (k v T' Lc X' hQ)
theorem own_rawbits (X : Stand p l e R s m args below meth c T locs cells slots) (hx : p.tables.exec = Jvm.exec) (hZ : Z.Warmed39 s.vm) {own : String} {index : Nat} (hown : s.vm.findClass own = some m.cls) (w1 : (Jvm.Cond.methodLink own index doubleToRawLongBitsName).before a0 Z = true) (w2 : (Jvm.Cond.native doubleToRawLongBitsName).before a0 Z = true) (w3 : (Jvm.Cond.static doubleToRawLongBitsName).before a0 Z = true) (w4 : (Jvm.Cond.initialized "java/lang/Double").before a0 Z = true) (eT : T.heap = h) (hsize : Ls.size = c.maxLocals) {b : UInt64} (pc' : Nat) (hp : pc + 3 = pc') (hd : decode c.code pc = .ok (.invokestatic index, 3)) (hf : 1 ≤ R.frames) (W : Nat) (hW : 2 * 0 + (st.map fun v => v.category).sum ≤ W) (hl : W + 15 ≤ R.locals)
    (k : ∀ T', Stand p l e R s m args below meth c T' locs cells slots → T'.heap = h → own_Go p e below Fe Q (T'.setTop (mkF m pc' Ls (.long b.toInt64 :: st)))) : own_Go p e below Fe Q (T.setTop (mkF m pc Ls (.double b :: st))) := by
  subst hp
  obtain ⟨vm', X', st'⟩ := X.doubleToRawLongBits hx hown (mvT hZ w1) (mvT hZ w2) (mvT hZ w3) (mvT hZ w4) (g := mkF m pc Ls (.double b :: st)) rfl hsize (rest := st) (b := b) rfl hd hf (Nat.le_trans (Nat.add_le_add_right hW _) hl)
  exact own_st st' (k _ X' eT)
end OwnSteps
section OwnRef
variable {p : Program} {l : Launch} {e : Env} {R : Room} {s : State} {m : MethodId} {args : Array Value} {below : List Frame} {meth : Method} {c : Code} {T : State} {locs : List Loc} {cells slots : Nat} {Z : State} {a0 : Array Value} {h : Heap}
/-- the entry that the sheet says is resolved is ready where the walk stands -/
theorem own_ready (X : Stand p l e R s m args below meth c T locs cells slots) (hZ : Z.Warmed39 s.vm) {own C n d : String} {index : Nat} (hown : s.vm.findClass own = some m.cls) (w : (Jvm.Cond.fieldRef own index C n d).before a0 Z = true)
    {cf i : Nat} {k : Class} {f : Field} (hf : Z.fieldFound? C n d = some (cf, k, i, f)) : T.vm.fieldReady m.cls index cf f := by
  have hW : Z.Warmed39 T.vm := wtrans hZ X.warmed
  have w2 : (Jvm.Cond.fieldRef own index C n d).before a0 (Z.setVm T.vm) = true := Cond.fieldRef_warmed39 hW w
  have hownT : (Z.setVm T.vm).vm.findClass own = some m.cls := by
    show T.vm.findClass own = _
    rw [X.warmed.alike.findClass]; exact hown
  obtain ⟨c2, k2, i2, f2, h2, r2⟩ := Cond.fieldRef_spec hownT w2
  obtain ⟨k', hi, -⟩ := State.fieldFound?_setVm (s := Z) hW.alike hf
  cases h2.symm.trans hi
  exact r2
theorem own_getFR (X : Stand p l e R s m args below meth c T locs cells slots) (hx : p.tables.exec = Jvm.exec) (hZ : Z.Warmed39 s.vm) {own C n d : String} {index : Nat} (hown : s.vm.findClass own = some m.cls) (w : (Jvm.Cond.fieldRef own index C n d).before a0 Z = true)
    (eT : T.heap = h) {a : Addr} {v : Value} (F : Fld Z h a C n d v) {g : JFrame} (hg : g.method = m) {rest : List Value} (hs : g.stack = .ref a :: rest) (hd : decode c.code g.pc = .ok (.getfield index, 3)) : ∃ T', Stand p l e R s m args below meth c T' locs cells slots ∧ T'.heap = h ∧ ∀ target, Steps p.tables e below (T'.setTop { g with pc := g.pc + 3, stack := v :: rest }) target → Steps p.tables e below (T.setTop g) target := by
  obtain ⟨cell, cf, k, i, f, h1, h2, h3, h4, -, -, h7⟩ := F
  have hr := own_ready X hZ hown w h2
  refine ⟨T, X, eT, fun target hrest => ?_⟩
  subst hg
  jvm_step X.here [hx, hd, getfield.wp_ready (e := e) (s := T) (f := g) X.here.top hr h3 hs (by rw [eT]; exact h1) h4 h7]
  exact hrest
theorem own_putFR (X : Stand p l e R s m args below meth c T locs cells slots) (hx : p.tables.exec = Jvm.exec) (hZ : Z.Warmed39 s.vm) {own C n d : String} {index kk : Nat} {ty : FieldType} (hown : s.vm.findClass own = some m.cls) (w : (Jvm.Cond.fieldRef own index C n d).before a0 Z = true)
    (eT : T.heap = h) {a : Addr} {v old : Value} (F : Fld Z h a C n d old) (E : Exa Z h a C) (L : (Jvm.Cond.lays C C n d).before a0 Z = true) (wi : (Jvm.Cond.instantiable C kk).before a0 Z = true)
    (hty : parseFieldDescriptor d = some ty) (hn : narrow ty v = v) (hf : Jvm.fits ty v = true) {g : JFrame} (hg : g.method = m) {rest : List Value} (hs : g.stack = v :: .ref a :: rest) (hd : decode c.code g.pc = .ok (.putfield index, 3)) :
    ∃ T' h', Stand p l e R s m args below meth c T' (locs ++ [⟨a, Jvm.RoadKit.slotOf Z C n d⟩]) cells slots ∧ T'.heap = h' ∧ Wr h h' a (Jvm.RoadKit.slotOf Z C n d) v ∧ ∀ target, Steps p.tables e below (T'.setTop { g with pc := g.pc + 3, stack := rest }) target → Steps p.tables e below (T.setTop g) target := by
  obtain ⟨cell, cf, k, i, f, h1, h2, h3, h4, h5, -, h7⟩ := F
  have hr := own_ready X hZ hown w h2
  have hlt : f.slot < cell.slots.size := (Array.getElem?_eq_some_iff.mp h7).1
  have hslot : Jvm.RoadKit.slotOf Z C n d = f.slot := by simp [Jvm.RoadKit.slotOf, h2]
  have htype : f.type = ty := (State.fieldFound?_type h2 hty).2
  have hsame : Z.vm.Alike T.vm := hZ.alike.trans X.warmed.alike
  obtain ⟨cC, kC, _, _, _, fl, l1, l2, l3, -, l5, -, l7, -⟩ := Cond.lays_spec L
  have hfl : fl = f := by
    have q := Option.some.inj (l3.symm.trans h2)
    exact congrArg (fun z => z.2.2.2) q
  rw [hfl] at l5 l7
  have hcls : cell.cls = cC := by
    obtain ⟨ce, _, q1, q2, -⟩ := E
    have q3 : ce = cell := Option.some.inj (q1.symm.trans h1)
    rw [q3] at q2
    exact Option.some.inj (q2.symm.trans l1)
  have hkind : kC.kind = .ordinary := by
    obtain ⟨c2, k2, i1, i2, i3, -⟩ := Cond.instantiable_spec wi
    have q1 : c2 = cC := Option.some.inj (i1.symm.trans l1)
    rw [q1] at i2
    have q2 : k2 = kC := Option.some.inj (i2.symm.trans l2)
    rw [← q2]; exact i3
  have hZfit : Z.fitsSlot cell.cls cell.vm f.slot v = true := by
    have q : Z.slotType? cell.cls cell.vm f.slot = some ty := by
      rw [hcls]
      unfold State.slotType?
      cases hv : cell.vm with
      | statics c9 => rw [hv] at h5; simp [VmData.isStatics] at h5
      | _ => simp [l2, hkind, l7, htype]
    unfold State.fitsSlot
    rw [q]
    exact hf
  have hTfit : T.fitsSlot cell.cls cell.vm f.slot v = true := by
    have q := State.fitsSlot_setVm (s := Z) (vm' := T.vm) hsame
    exact (congrFun (congrFun (congrFun (congrFun q cell.cls) cell.vm) f.slot) v).trans hZfit
  obtain ⟨X', st⟩ := X.putfieldReady hx hr h3 (Or.inl l5) (by rw [eT]; exact h1) h4 hlt (by rw [htype]; exact hn) hTfit hg hs hd
  rw [hslot]
  exact ⟨_, _, X', rfl, ⟨cell, h1, h5, hlt, by rw [← eT]; rfl⟩, st⟩
theorem own_getFRc {Fe : Outcome → State → List Loc → Prop} {Q : Option Value → Heap → List Loc → Prop} {pc : Nat} {Ls : Array Slot} {st : List Value} (X : Stand p l e R s m args below meth c T locs cells slots) (hx : p.tables.exec = Jvm.exec) (hZ : Z.Warmed39 s.vm) {own C n d : String} {index : Nat} (hown : s.vm.findClass own = some m.cls) (w : (Jvm.Cond.fieldRef own index C n d).before a0 Z = true) (eT : T.heap = h) {a : Addr} {v : Value} (F : Fld Z h a C n d v) (pc' : Nat) (hp : pc + 3 = pc') (hd : decode c.code pc = .ok (.getfield index, 3))
    (k : ∀ T', Stand p l e R s m args below meth c T' locs cells slots → T'.heap = h → own_Go p e below Fe Q (T'.setTop (mkF m pc' Ls (v :: st)))) : own_Go p e below Fe Q (T.setTop (mkF m pc Ls (.ref a :: st))) := by
  subst hp
  obtain ⟨T', X', e', st'⟩ := own_getFR X hx hZ hown w eT F (g := mkF m pc Ls (.ref a :: st)) rfl rfl hd
  exact own_st st' (k T' X' e')
theorem own_putFRc {Fe : Outcome → State → List Loc → Prop} {Q : Option Value → Heap → List Loc → Prop} {pc : Nat} {Ls : Array Slot} {st : List Value} (X : Stand p l e R s m args below meth c T locs cells slots) (hx : p.tables.exec = Jvm.exec) (hZ : Z.Warmed39 s.vm) {own C n d : String} {index kk : Nat} {ty : FieldType} (hown : s.vm.findClass own = some m.cls) (w : (Jvm.Cond.fieldRef own index C n d).before a0 Z = true) (eT : T.heap = h) {a : Addr} {v old : Value} (F : Fld Z h a C n d old) (E : Exa Z h a C) (L : (Jvm.Cond.lays C C n d).before a0 Z = true) (wi : (Jvm.Cond.instantiable C kk).before a0 Z = true)
    (hty : parseFieldDescriptor d = some ty) (hn : narrow ty v = v) (hf : Jvm.fits ty v = true) (pc' : Nat) (hp : pc + 3 = pc') (hd : decode c.code pc = .ok (.putfield index, 3))
    (k : ∀ T' h', Stand p l e R s m args below meth c T' (locs ++ [⟨a, Jvm.RoadKit.slotOf Z C n d⟩]) cells slots → T'.heap = h' → Wr h h' a (Jvm.RoadKit.slotOf Z C n d) v → own_Go p e below Fe Q (T'.setTop (mkF m pc' Ls st))) : own_Go p e below Fe Q (T.setTop (mkF m pc Ls (v :: .ref a :: st))) := by
  subst hp
  obtain ⟨T', h', X', e', W', st'⟩ := own_putFR X hx hZ hown w eT F E L wi hty hn hf (g := mkF m pc Ls (v :: .ref a :: st)) rfl rfl hd
  exact own_st st' (k T' h' X' e' W')
end OwnRef
section OwnArith
theorem own_two (x y : Int64) (h : x.toInt = y.toInt) : x = y := Int64.toInt_inj.mp h
theorem own_l0 : ((0 : Int64)).toInt = 0 := by decide
theorem own_l1 : ((1 : Int64)).toInt = 1 := by decide
theorem own_i0 : ((0 : Int32)).toInt = 0 := by decide
theorem own_i1 : ((1 : Int32)).toInt = 1 := by decide
/-- Math.max(1, i & 0x7fffffff) -/
def own_n (i : Int32) : Int32 := if (1 : Int32) < (i &&& (2147483647 : Int32)) then (i &&& (2147483647 : Int32)) else (1 : Int32)
theorem own_n_rng (i : Int32) : 1 ≤ (own_n i).toInt ∧ (own_n i).toInt ≤ 2147483647 := by
  unfold own_n
  have h0 := c_mask i 2147483647 31 (by decide) (by decide)
  have h1 := own_i1
  split
  · rename_i h
    rw [Int32.lt_iff_toInt_lt] at h
    omega
  · omega
theorem own_n64 (i : Int32) : (own_n i).toInt64.toInt = (own_n i).toInt := c_i2l _
theorem own_n64_nz (i : Int32) : ¬ (own_n i).toInt64 = 0 := fun e => by
  have h := own_n_rng i
  have h2 := own_n64 i
  rw [e, own_l0] at h2
  omega
theorem own_n64_m1 (i : Int32) : (own_n i).toInt64 ≠ -1 := fun e => by
  have h := own_n_rng i
  have h2 := own_n64 i
  rw [e] at h2
  have : ((-1 : Int64)).toInt = -1 := by decide
  omega
theorem own_divN {x n : Int64} (hx : 0 ≤ x.toInt) (hn : 0 < n.toInt) : (x / n).toInt = x.toInt / n.toInt := (c_ldiv x n n.toInt rfl (fun e => by
  rw [e] at hn
  have : ((-1 : Int64)).toInt = -1 := by decide
  omega)).1 hx
theorem own_modN {x n : Int64} (hx : 0 ≤ x.toInt) : (x % n).toInt = x.toInt % n.toInt := by
  rw [Int64.toInt_mod, Int.tmod_eq_emod_of_nonneg hx]
/-- one period more: a + f / N and q + r / N -/
theorem own_addp {a q r n : Int64} {f : Int32} (n0 : 0 < n.toInt) (n1 : n.toInt ≤ 2147483647) (r0 : 0 ≤ r.toInt) (r1 : r.toInt < n.toInt) (f0 : 0 ≤ f.toInt) (f1 : f.toInt < n.toInt)
    (b0 : 0 ≤ a.toInt) (q0 : 0 ≤ q.toInt) (b1 : a.toInt + q.toInt + 1 ≤ 9223372036854775807) :
    (a + (q + (f.toInt64 + r) / n)).toInt = a.toInt + q.toInt + (f.toInt + r.toInt) / n.toInt ∧ (((f.toInt64 + r) % n).toInt32).toInt = (f.toInt + r.toInt) % n.toInt := by
  have hf := c_i2l f
  have e1 : (f.toInt64 + r).toInt = f.toInt + r.toInt := by rw [FP.Core.int64_add (by rw [hf]; omega) (by rw [hf]; omega), hf]
  have e2 : ((f.toInt64 + r) / n).toInt = (f.toInt + r.toInt) / n.toInt := by rw [own_divN (by rw [e1]; omega) n0, e1]
  have e3 : ((f.toInt64 + r) % n).toInt = (f.toInt + r.toInt) % n.toInt := by rw [own_modN (by rw [e1]; omega), e1]
  have d0 : 0 ≤ (f.toInt + r.toInt) / n.toInt := Int.ediv_nonneg (by omega) (by omega)
  have d1 : (f.toInt + r.toInt) / n.toInt ≤ 1 := by
    have := (Int.ediv_lt_iff_lt_mul n0 (a := f.toInt + r.toInt) (b := 2)).mpr (by omega)
    omega
  have m0 := Int.emod_nonneg (f.toInt + r.toInt) (b := n.toInt) (by omega)
  have m1 := Int.emod_lt_of_pos (f.toInt + r.toInt) (b := n.toInt) n0
  constructor
  · have e4 : (q + (f.toInt64 + r) / n).toInt = q.toInt + (f.toInt + r.toInt) / n.toInt := by rw [FP.Core.int64_add (by rw [e2]; omega) (by rw [e2]; omega), e2]
    rw [FP.Core.int64_add (by rw [e4]; omega) (by rw [e4]; omega), e4]
    omega
  · have h := c_l2i ((f.toInt64 + r) % n)
    have k := rng32 (((f.toInt64 + r) % n).toInt32)
    omega
/-- what roundedUp answers -/
def own_up (a : Int64) (f : Int32) : Int64 := if 0 < f then a + (1 : Int64) else a
theorem own_up_val {a : Int64} {f : Int32} (h : a.toInt + 1 ≤ 9223372036854775807) (h0 : 0 ≤ a.toInt) : (own_up a f).toInt = a.toInt + (if 0 < f.toInt then 1 else 0) := by
  unfold own_up
  have k : 0 < f ↔ 0 < f.toInt := by rw [Int32.lt_iff_toInt_lt, own_i0]
  by_cases q : 0 < f
  · rw [if_pos q, if_pos (k.mp q), FP.Core.int64_add (by rw [own_l1]; omega) (by rw [own_l1]; omega), own_l1]
  · rw [if_neg q, if_neg (fun z => q (k.mpr z)), Int.add_zero]
/-- what compareUnsigned answers -/
def own_cu (x y : Int64) : Int32 := if x + (-9223372036854775808 : Int64) < y + (-9223372036854775808 : Int64) then (-1 : Int32) else if x + (-9223372036854775808 : Int64) = y + (-9223372036854775808 : Int64) then 0 else 1
theorem own_cu_min {x : Int64} (h : 0 ≤ x.toInt) : (x + (-9223372036854775808 : Int64)).toInt = x.toInt - 9223372036854775808 := by
  have k : ((-9223372036854775808 : Int64)).toInt = -9223372036854775808 := by decide
  have r := rng64 x
  have q := c_ladd x (-9223372036854775808)
  have r2 := rng64 (x + (-9223372036854775808 : Int64))
  omega
theorem own_cu_le {x y : Int64} (hx : 0 ≤ x.toInt) (hy : 0 ≤ y.toInt) (h : x.toInt ≤ y.toInt) : ¬ 0 < own_cu x y := by
  unfold own_cu
  have e1 := own_cu_min hx
  have e2 := own_cu_min hy
  by_cases q : x.toInt = y.toInt
  · rw [if_neg (by rw [Int64.lt_iff_toInt_lt]; omega), if_pos (Int64.toInt_inj.mp (by omega))]; decide
  · rw [if_pos (by rw [Int64.lt_iff_toInt_lt]; omega)]; decide
theorem own_cu_gt {x y : Int64} (hx : 0 ≤ x.toInt) (hy : 0 ≤ y.toInt) (h : y.toInt < x.toInt) : 0 < own_cu x y := by
  unfold own_cu
  have e1 := own_cu_min hx
  have e2 := own_cu_min hy
  rw [if_neg (by rw [Int64.lt_iff_toInt_lt]; omega), if_neg (fun z => by rw [z] at e1; omega)]; decide
theorem own_back (t p : Int64) : t + p - t = p := by
  refine Int64.toInt_inj.mp ?_
  have h1 := c_ladd t p
  have h2 := c_lsub (t + p) t
  have h3 := rng64 (t + p - t)
  have h4 := rng64 p
  omega
/-- floors and remainders, step by step -/
theorem own_step {N A R : Int} (h : 0 < N) : A / N + (A % N + R) / N = (A + R) / N ∧ (A % N + R) % N = (A + R) % N := by
  have e : A + R = (A % N + R) + N * (A / N) := by have := Int.emod_add_mul_ediv A N; omega
  constructor
  · rw [e, Int.add_mul_ediv_left _ _ (by omega)]
    omega
  · rw [e, Int.add_mul_emod_self_left]
end OwnArith
section OwnLaw
def own_ms (j : Int64) : Int64 := ((j &&& (9223372036854775807 : Int64)) % (9223372036854 : Int64)) + (1 : Int64)
theorem own_ms_rng (j : Int64) : 1 ≤ (own_ms j).toInt ∧ (own_ms j).toInt ≤ 9223372036854 := by
  unfold own_ms
  have h0 := c_maskL j 9223372036854775807 63 (by decide) (by decide)
  have h1 : ((9223372036854 : Int64)).toInt = 9223372036854 := by decide
  have h2 : ((j &&& (9223372036854775807 : Int64)) % (9223372036854 : Int64)).toInt = (j.toInt % ((2 ^ 63 : Nat) : Int)) % 9223372036854 := by rw [own_modN (by rw [h0]; omega), h0, h1]
  have h3 := own_l1
  rw [FP.Core.int64_add (by rw [h2, h3]; omega) (by rw [h2, h3]; omega), h2, h3]
  omega
def own_w (j : Int64) : Int64 := own_ms j * (1000000 : Int64)
theorem own_w_val (j : Int64) : (own_w j).toInt = (own_ms j).toInt * 1000000 := by
  have h := own_ms_rng j
  have h1 : ((1000000 : Int64)).toInt = 1000000 := by decide
  unfold own_w
  rw [FP.Core.int64_mul (by rw [h1]; omega) (by rw [h1]; omega), h1]
theorem own_w_rng (j : Int64) : 1000000 ≤ (own_w j).toInt ∧ (own_w j).toInt ≤ 9223372036854000000 := by
  have h := own_ms_rng j
  rw [own_w_val]; omega
variable (i : Int32) (j : Int64)
def own_q : Int64 := own_w j / (own_n i).toInt64
def own_r : Int64 := own_w j % (own_n i).toInt64
theorem own_q_val : (own_q i j).toInt = (own_w j).toInt / (own_n i).toInt := by
  have h1 := own_w_rng j
  have h2 := own_n_rng i
  unfold own_q
  rw [own_divN (by omega) (by rw [own_n64]; omega), own_n64]
theorem own_r_val : (own_r i j).toInt = (own_w j).toInt % (own_n i).toInt := by
  have h1 := own_w_rng j
  unfold own_r
  rw [own_modN (by omega), own_n64]
theorem own_qr : 0 ≤ (own_q i j).toInt ∧ 0 ≤ (own_r i j).toInt ∧ (own_r i j).toInt < (own_n i).toInt ∧ (own_n i).toInt * (own_q i j).toInt ≤ (own_w j).toInt := by
  have h1 := own_w_rng j
  have h2 := own_n_rng i
  rw [own_q_val, own_r_val]
  refine ⟨Int.ediv_nonneg (by omega) (by omega), Int.emod_nonneg _ (by omega), Int.emod_lt_of_pos _ (by omega), Int.mul_ediv_self_le (by omega)⟩
theorem own_qk {K : Int} (h : K ≤ (own_n i).toInt) : K * (own_q i j).toInt ≤ 9223372036854000000 := by
  obtain ⟨h1, -, -, h4⟩ := own_qr i j
  have h5 := own_w_rng j
  exact Int.le_trans (Int.le_trans (Int.mul_le_mul_of_nonneg_right h h1) h4) h5.2
/-- Math.min(kk & 3, N) -/
def own_k (kk : Int32) : Int32 := if own_n i < (kk &&& (3 : Int32)) then own_n i else (kk &&& (3 : Int32))
theorem own_k_rng (kk : Int32) : 0 ≤ (own_k i kk).toInt ∧ (own_k i kk).toInt ≤ 3 ∧ (own_k i kk).toInt ≤ (own_n i).toInt := by
  unfold own_k
  have h0 := c_mask kk 3 2 (by decide) (by decide)
  have h1 := own_n_rng i
  split
  · rename_i h
    rw [Int32.lt_iff_toInt_lt] at h
    omega
  · rename_i h
    rw [Int32.lt_iff_toInt_lt] at h
    omega
def own_c (kk : Int32) : Int64 := (own_k i kk).toInt64 * own_q i j + ((((own_k i kk).toInt64 * own_r i j + (own_n i).toInt64) - (1 : Int64)) / (own_n i).toInt64)
theorem own_up_div {A N : Int} (hN : 0 < N) : (A + N - 1) / N = A / N + (if 0 < A % N then 1 else 0) := by
  have h0 := Int.emod_nonneg A (b := N) (by omega)
  have h1 := Int.emod_lt_of_pos A hN
  have e : A + N - 1 = (A % N + N - 1) + N * (A / N) := by have := Int.emod_add_mul_ediv A N; omega
  rw [e, Int.add_mul_ediv_left _ _ (by omega)]
  by_cases z : 0 < A % N
  · rw [if_pos z]
    have : (A % N + N - 1) / N = 1 := by
      rw [show A % N + N - 1 = (A % N - 1) + N * 1 by omega, Int.add_mul_ediv_left _ _ (by omega), Int.ediv_eq_zero_of_lt (by omega) (by omega)]; omega
    omega
  · rw [if_neg z]
    have : (A % N + N - 1) / N = 0 := Int.ediv_eq_zero_of_lt (by omega) (by omega)
    omega
theorem own_cv {k q r n : Int64} {K : Int} (hk : k.toInt = K) (k0 : 0 ≤ K) (k3 : K ≤ 3) (n0 : 0 < n.toInt) (n1 : n.toInt ≤ 2147483647) (r0 : 0 ≤ r.toInt) (r1 : r.toInt < n.toInt) (q0 : 0 ≤ q.toInt) (q1 : K * q.toInt ≤ 9223372036854000000) :
    (k * q + (((k * r + n) - (1 : Int64)) / n)).toInt = K * q.toInt + (K * r.toInt) / n.toInt + (if 0 < (K * r.toInt) % n.toInt then 1 else 0) := by
  have b1 : 0 ≤ K * r.toInt := Int.mul_nonneg k0 r0
  have b2 : K * r.toInt ≤ 3 * 2147483647 := Int.mul_le_mul k3 (by omega) r0 (by omega)
  have b3 : 0 ≤ K * q.toInt := Int.mul_nonneg k0 q0
  have e1 : (k * r).toInt = K * r.toInt := by rw [FP.Core.int64_mul (by rw [hk]; omega) (by rw [hk]; omega), hk]
  have e2 : (k * q).toInt = K * q.toInt := by rw [FP.Core.int64_mul (by rw [hk]; omega) (by rw [hk]; omega), hk]
  have e3 : (k * r + n).toInt = K * r.toInt + n.toInt := by rw [FP.Core.int64_add (by rw [e1]; omega) (by rw [e1]; omega), e1]
  have e4 : ((k * r + n) - (1 : Int64)).toInt = K * r.toInt + n.toInt - 1 := by rw [FP.Core.int64_sub (by rw [e3, own_l1]; omega) (by rw [e3, own_l1]; omega), e3, own_l1]
  have e5 : (((k * r + n) - (1 : Int64)) / n).toInt = (K * r.toInt) / n.toInt + (if 0 < (K * r.toInt) % n.toInt then 1 else 0) := by rw [own_divN (by rw [e4]; omega) n0, e4, own_up_div n0]
  have d0 : 0 ≤ (K * r.toInt) / n.toInt := Int.ediv_nonneg b1 (by omega)
  have d1 : (K * r.toInt) / n.toInt ≤ K := Int.ediv_le_of_le_mul n0 (Int.mul_le_mul_of_nonneg_left (by omega) k0)
  have v := c_ladd (k * q) (((k * r + n) - (1 : Int64)) / n)
  have v2 := rng64 (k * q + (((k * r + n) - (1 : Int64)) / n))
  rw [e2, e5] at v
  clear e1 e2 e3 e4 e5
  generalize (k * q + (((k * r + n) - (1 : Int64)) / n)) = X at *
  generalize (K * r.toInt) / n.toInt = D at *
  generalize (K * r.toInt) % n.toInt = M at *
  generalize K * q.toInt = KQ at *
  by_cases hM : 0 < M
  · rw [if_pos hM] at v ⊢
    omega
  · rw [if_neg hM] at v ⊢
    omega
theorem own_c_val (kk : Int32) {K : Int} (hK : (own_k i kk).toInt = K) : (own_c i j kk).toInt = K * (own_q i j).toInt + (K * (own_r i j).toInt) / (own_n i).toInt + (if 0 < (K * (own_r i j).toInt) % (own_n i).toInt then 1 else 0) := by
  obtain ⟨h1, h2, h3, -⟩ := own_qr i j
  obtain ⟨k0, k1, k2⟩ := own_k_rng i kk
  have h5 := own_n_rng i
  have h6 := own_n64 i
  have hk := (c_i2l (own_k i kk)).trans hK
  rw [hK] at k0 k1 k2
  have b4 := own_qk i j k2
  have c := own_cv (k := (own_k i kk).toInt64) (q := own_q i j) (r := own_r i j) (n := (own_n i).toInt64) hk k0 k1 (by rw [h6]; exact Int.lt_of_lt_of_le (by decide) h5.1) (by rw [h6]; exact h5.2) h2 (by rw [h6]; exact h3) h1 b4
  rw [h6] at c
  exact c
/-- the debt behind so many periods -/
def own_a1 : Int64 := (0 : Int64) + (own_q i j + ((0 : Int32).toInt64 + own_r i j) / (own_n i).toInt64)
def own_f1 : Int32 := ((((0 : Int32).toInt64 + own_r i j) % (own_n i).toInt64).toInt32)
def own_a2 : Int64 := own_a1 i j + (own_q i j + ((own_f1 i j).toInt64 + own_r i j) / (own_n i).toInt64)
def own_f2 : Int32 := ((((own_f1 i j).toInt64 + own_r i j) % (own_n i).toInt64).toInt32)
def own_a3 : Int64 := own_a2 i j + (own_q i j + ((own_f2 i j).toInt64 + own_r i j) / (own_n i).toInt64)
def own_f3 : Int32 := ((((own_f2 i j).toInt64 + own_r i j) % (own_n i).toInt64).toInt32)
/-- nanos and fraction are K periods -/
def own_is (K : Int) (a : Int64) (f : Int32) : Prop := a.toInt = K * (own_q i j).toInt + (K * (own_r i j).toInt) / (own_n i).toInt ∧ f.toInt = (K * (own_r i j).toInt) % (own_n i).toInt
theorem own_s0 : own_is i j 0 0 0 := by
  unfold own_is
  rw [own_l0, own_i0, Int.zero_mul, Int.zero_mul, Int.zero_ediv, Int.zero_emod]
  exact ⟨rfl, rfl⟩
theorem own_nxp {q r n a : Int64} {f : Int32} {K P : Int} (s1 : a.toInt = K * q.toInt - P + (K * r.toInt) / n.toInt) (s2 : f.toInt = (K * r.toInt) % n.toInt) (k0 : 0 ≤ K) (k2 : K ≤ 2) (n0 : 0 < n.toInt) (n1 : n.toInt ≤ 2147483647) (r0 : 0 ≤ r.toInt) (r1 : r.toInt < n.toInt) (q0 : 0 ≤ q.toInt) (p0 : 0 ≤ P) (p1 : P ≤ K * q.toInt) (h8 : (K + 1) * q.toInt ≤ 9223372036854000000) :
    (a + (q + (f.toInt64 + r) / n)).toInt = (K + 1) * q.toInt - P + ((K + 1) * r.toInt) / n.toInt ∧ (((f.toInt64 + r) % n).toInt32).toInt = ((K + 1) * r.toInt) % n.toInt := by
  have b1 : 0 ≤ K * r.toInt := Int.mul_nonneg k0 r0
  have m0 := Int.emod_nonneg (K * r.toInt) (b := n.toInt) (by omega)
  have m1 := Int.emod_lt_of_pos (K * r.toInt) (b := n.toInt) n0
  have d0 : 0 ≤ (K * r.toInt) / n.toInt := Int.ediv_nonneg b1 (by omega)
  have d1 : (K * r.toInt) / n.toInt ≤ K := Int.ediv_le_of_le_mul n0 (Int.mul_le_mul_of_nonneg_left (by omega) k0)
  have eq1 : (K + 1) * q.toInt = K * q.toInt + q.toInt := by rw [Int.add_mul, Int.one_mul]
  have er1 : (K + 1) * r.toInt = K * r.toInt + r.toInt := by rw [Int.add_mul, Int.one_mul]
  obtain ⟨g1, g2⟩ := own_step (N := n.toInt) (A := K * r.toInt) (R := r.toInt) n0
  have k := own_addp (a := a) (q := q) (r := r) (n := n) (f := f) n0 n1 r0 r1 (by omega) (by omega) (by omega) q0 (by omega)
  rw [s2, s1] at k
  obtain ⟨kk1, kk2⟩ := k
  rw [eq1, er1]
  refine ⟨kk1.trans ?_, kk2.trans g2⟩
  clear kk1 kk2
  omega
theorem own_next {K : Int} {a : Int64} {f : Int32} (h : own_is i j K a f) (k0 : 0 ≤ K) (k2 : K ≤ 2) (kn : K + 1 ≤ (own_n i).toInt) : own_is i j (K + 1) (a + (own_q i j + (f.toInt64 + own_r i j) / (own_n i).toInt64)) (((f.toInt64 + own_r i j) % (own_n i).toInt64).toInt32) := by
  obtain ⟨h1, h2, h3, -⟩ := own_qr i j
  obtain ⟨s1, s2⟩ := h
  have h5 := own_n_rng i
  have h6 := own_n64 i
  have h8 := own_qk i j kn
  have c := own_nxp (q := own_q i j) (r := own_r i j) (n := (own_n i).toInt64) (a := a) (f := f) (K := K) (P := 0) (by rw [h6, Int.sub_zero]; exact s1) (by rw [h6]; exact s2) k0 k2 (by rw [h6]; exact Int.lt_of_lt_of_le (by decide) h5.1) (by rw [h6]; exact h5.2) h2 (by rw [h6]; exact h3) h1 (Int.le_refl _) (Int.mul_nonneg k0 h1) h8
  rw [h6, Int.sub_zero] at c
  exact c
theorem own_s1 (hn : 1 ≤ (own_n i).toInt) : own_is i j 1 (own_a1 i j) (own_f1 i j) := own_next i j (own_s0 i j) (by decide) (by decide) hn
theorem own_s2 (hn : 2 ≤ (own_n i).toInt) : own_is i j 2 (own_a2 i j) (own_f2 i j) := own_next i j (own_s1 i j (by omega)) (by decide) (by decide) hn
theorem own_s3 (hn : 3 ≤ (own_n i).toInt) : own_is i j 3 (own_a3 i j) (own_f3 i j) := own_next i j (own_s2 i j (by omega)) (by decide) (by decide) hn
variable {i j}
/-- what the law expects -/
def own_x (c e : Int64) : Int64 := if (0 : Int64) < c - e then c - e else (0 : Int64)
theorem own_bounds {K : Int} {a : Int64} {f : Int32} (h : own_is i j K a f) (k0 : 0 ≤ K) (k3 : K ≤ 3) (kn : K ≤ (own_n i).toInt) : 0 ≤ a.toInt ∧ a.toInt ≤ 9223372036854000003 := by
  obtain ⟨h1, h2, h3, h4⟩ := own_qr i j
  have h5 := own_n_rng i
  have h8 := own_qk i j kn
  have b1 : 0 ≤ K * (own_r i j).toInt := Int.mul_nonneg k0 h2
  have b3 : 0 ≤ K * (own_q i j).toInt := Int.mul_nonneg k0 h1
  have d0 : 0 ≤ (K * (own_r i j).toInt) / (own_n i).toInt := Int.ediv_nonneg b1 (by omega)
  have d1 : (K * (own_r i j).toInt) / (own_n i).toInt ≤ K := Int.ediv_le_of_le_mul (Int.lt_of_lt_of_le (by decide) h5.1) (Int.mul_le_mul_of_nonneg_left (Int.le_of_lt h3) k0)
  have := h.1
  omega
theorem own_left {kk : Int32} {K : Int} {a e t : Int64} {f : Int32} (hK : (own_k i kk).toInt = K) (h : own_is i j K a f) (e0 : 0 ≤ e.toInt) (he : e.toInt ≤ a.toInt) : own_up (a - (t + e - t)) f = own_x (own_c i j kk) e := by
  obtain ⟨k0, k1, k2⟩ := own_k_rng i kk
  rw [hK] at k0 k1 k2
  have b := own_bounds h k0 k1 k2
  have c := own_c_val i j kk hK
  rw [← h.1, ← h.2] at c
  generalize own_c i j kk = C at *
  have s : (a - e).toInt = a.toInt - e.toInt := FP.Core.int64_sub (by omega) (by omega)
  have u := own_up_val (a := a - e) (f := f) (by omega) (by omega)
  rw [own_back]
  have d : (C - e).toInt = a.toInt + (if 0 < f.toInt then 1 else 0) - e.toInt := by rw [FP.Core.int64_sub (by rw [c]; split <;> omega) (by rw [c]; split <;> omega), c]
  refine Int64.toInt_inj.mp ?_
  rw [u, s]
  unfold own_x
  by_cases z : (0 : Int64) < C - e
  · rw [if_pos z, d]; omega
  · rw [if_neg z, own_l0]
    rw [Int64.lt_iff_toInt_lt, own_l0, d] at z
    split at z <;> split <;> omega
theorem own_gone {kk : Int32} {K : Int} {a e : Int64} {f : Int32} (hK : (own_k i kk).toInt = K) (h : own_is i j K a f) (he : a.toInt < e.toInt) : own_up (0 : Int64) (0 : Int32) = own_x (own_c i j kk) e := by
  obtain ⟨k0, k1, k2⟩ := own_k_rng i kk
  rw [hK] at k0 k1 k2
  have b := own_bounds h k0 k1 k2
  have c := own_c_val i j kk hK
  rw [← h.1, ← h.2] at c
  generalize own_c i j kk = C at *
  have r := rng64 e
  have d : (C - e).toInt = a.toInt + (if 0 < f.toInt then 1 else 0) - e.toInt := by rw [FP.Core.int64_sub (by rw [c]; split <;> omega) (by rw [c]; split <;> omega), c]
  unfold own_x
  rw [if_neg (by rw [Int64.lt_iff_toInt_lt, own_l0, d]; split <;> omega)]
  rfl
variable (i j)
/-- the time that is paid -/
def own_e0 (kk : Int32) (ee : Int64) : Int64 := if (0 : Int64) < (own_c i j kk + ((ee &&& (15 : Int64)) - (8 : Int64))) then (own_c i j kk + ((ee &&& (15 : Int64)) - (8 : Int64))) else (0 : Int64)
theorem own_e0_ge (kk : Int32) (ee : Int64) : 0 ≤ (own_e0 i j kk ee).toInt := by
  unfold own_e0
  split
  · rename_i h
    rw [Int64.lt_iff_toInt_lt, own_l0] at h
    exact Int.le_of_lt h
  · rw [own_l0]; exact Int.le_refl _
theorem own_e1_ge (ee : Int64) : 0 ≤ (ee &&& (9223372036854775807 : Int64)).toInt := by
  rw [c_maskL ee 9223372036854775807 63 (by decide) (by decide)]; omega
theorem own_n_pos : 0 < own_n i := by
  rw [Int32.lt_iff_toInt_lt, own_i0]; have := own_n_rng i; omega
theorem own_n_ne : own_n i ≠ 0 := fun e => by
  have h := own_n_rng i
  rw [e, own_i0] at h; omega
theorem own_ms_pos : 0 < own_ms j := by
  rw [Int64.lt_iff_toInt_lt, own_l0]; have := own_ms_rng j; omega
theorem own_ms_le : ¬ (9223372036854 : Int64) < own_ms j := by
  have h : ((9223372036854 : Int64)).toInt = 9223372036854 := by decide
  rw [Int64.lt_iff_toInt_lt, h]; have := own_ms_rng j; omega
theorem own_k0 {kk : Int32} (h : own_k i kk < (1 : Int32)) : (own_k i kk).toInt = 0 := by
  rw [Int32.lt_iff_toInt_lt, own_i1] at h
  have := own_k_rng i kk; omega
theorem own_k1 {kk : Int32} (h1 : ¬ own_k i kk < (1 : Int32)) (h : own_k i kk < (2 : Int32)) : (own_k i kk).toInt = 1 := by
  have e2 : ((2 : Int32)).toInt = 2 := by decide
  rw [Int32.lt_iff_toInt_lt, own_i1] at h1
  rw [Int32.lt_iff_toInt_lt, e2] at h
  omega
theorem own_k2 {kk : Int32} (h1 : ¬ own_k i kk < (2 : Int32)) (h : own_k i kk < (3 : Int32)) : (own_k i kk).toInt = 2 := by
  have e2 : ((2 : Int32)).toInt = 2 := by decide
  have e3 : ((3 : Int32)).toInt = 3 := by decide
  rw [Int32.lt_iff_toInt_lt, e2] at h1
  rw [Int32.lt_iff_toInt_lt, e3] at h
  omega
theorem own_k3 {kk : Int32} (h1 : ¬ own_k i kk < (3 : Int32)) : (own_k i kk).toInt = 3 := by
  have e3 : ((3 : Int32)).toInt = 3 := by decide
  rw [Int32.lt_iff_toInt_lt, e3] at h1
  have := own_k_rng i kk; omega
theorem own_kn {kk : Int32} {K : Int} (h : (own_k i kk).toInt = K) : K ≤ (own_n i).toInt := by have := own_k_rng i kk; omega
variable {i j}
theorem own_cuN {K : Int} {kk : Int32} {a e t : Int64} {f : Int32} (hK : (own_k i kk).toInt = K) (h : own_is i j K a f) (e0 : 0 ≤ e.toInt) (he : ¬ a < e) : ¬ 0 < own_cu (t + e - t) a := by
  obtain ⟨k0, k1, k2⟩ := own_k_rng i kk
  rw [hK] at k0 k1 k2
  have b := own_bounds h k0 k1 k2
  rw [Int64.lt_iff_toInt_lt] at he
  rw [own_back]
  exact own_cu_le e0 b.1 (by omega)
theorem own_cuY {K : Int} {kk : Int32} {a e t : Int64} {f : Int32} (hK : (own_k i kk).toInt = K) (h : own_is i j K a f) (e0 : 0 ≤ e.toInt) (he : a < e) : 0 < own_cu (t + e - t) a := by
  obtain ⟨k0, k1, k2⟩ := own_k_rng i kk
  rw [hK] at k0 k1 k2
  have b := own_bounds h k0 k1 k2
  rw [Int64.lt_iff_toInt_lt] at he
  rw [own_back]
  exact own_cu_gt e0 b.1 he
end OwnLaw
theorem own_ef_rm_maxI (m : MethodId) (a : Int32) (b : Int32) : entryFrame m #[(.int a), (.int b)] 2 = mkF m 0 #[.val (.int a), .val (.int b)] [] := by first | (simp [entryFrame, mkF, argsToLocals, Value.category]; done) | rfl
def Q_rm_maxI (Z : State) (a : Int32) (b : Int32) (r : Int32) (h0 : Heap) (n0 : Nat) (v : Option Value) (h : Heap) (L : List Loc) : Prop := v = some (.int r) ∧ Fr n0 L ∧ h = h0
theorem own_d1_0 : decode jdk_29_method_65_code 0 = .ok (.iload_n 0, 1) := by decide +kernel
theorem own_d1_1 : decode jdk_29_method_65_code 1 = .ok (.iload_n 1, 1) := by decide +kernel
theorem own_d1_2 : decode jdk_29_method_65_code 2 = .ok (.if_icmp .lt 7, 3) := by decide +kernel
theorem own_d1_9 : decode jdk_29_method_65_code 9 = .ok (.iload_n 1, 1) := by decide +kernel
theorem own_d1_10 : decode jdk_29_method_65_code 10 = .ok (.ireturn, 1) := by decide +kernel
theorem own_d1_5 : decode jdk_29_method_65_code 5 = .ok (.iload_n 0, 1) := by decide +kernel
theorem own_d1_6 : decode jdk_29_method_65_code 6 = .ok (.goto 4, 3) := by decide +kernel
set_option maxRecDepth 65536 in
set_option maxHeartbeats 40000000 in
theorem rm_maxI (l : Launch) (Z : State) (a0 : Array Value) (hw : ∀ d ∈ tables_1, d.before a0 Z = true) (ws : List Jvm.Cond) (a : Int32) (b : Int32) (r : Int32) (h0 : Heap) (n0 : Nat) (Z0 : n0 ≤ h0.size) (hres : (if a < b then b else a) = r) :
    MetFree l (⟨"java/lang/Math", "max", "(II)I"⟩ : MethodName) (head1 (Jvm.Cond.code (⟨"java/lang/Math", "max", "(II)I"⟩ : MethodName) jdk_29_method_65_code 2 (some .int) :: ws) ({ frames := 0, cells := 0, slots := 0, locals := 0 } : Room)) (fun aa U => aa = #[(.int a), (.int b)] ∧ Z.Warmed39 U.vm ∧ U.heap = h0) (fun _ _ _ _ _ => True) (fun _ U ou U' => ∃ v L, ou = .returned v ∧ Q_rm_maxI Z a b r h0 n0 v U'.heap L ∧ FrameEnd U ou U' L ({ frames := 0, cells := 0, slots := 0, locals := 0 } : Room).cells ({ frames := 0, cells := 0, slots := 0, locals := 0 } : Room).slots) := by
  refine MetFree.of_bodySF (Jvm.Free.JP.mathPlain rfl (by decide +kernel)) hisR ?_
  intro p e s m args below meth c s₁ Bd hml0 hP hK
  obtain ⟨rfl, hZ, hh⟩ := hP
  have hx := Bd.exec
  have hby := Bd.bytes
  have hml : c.maxLocals = 2 := hml0
  have hown : s.vm.findClass "java/lang/Math" = some m.cls := findClass_of_methodNamed Bd.named
  have hnm := (name_of_methodNamed Bd.named Bd.method).1
  have X0 : Stand p l e ({ frames := 0, cells := 0, slots := 0, locals := 0 } : Room) s m #[(.int a), (.int b)] below meth c s₁ [] 0 0 := Stand.of_body Bd
  have e0 : s₁.heap = h0 := by rw [← hh, Bd.state]; rfl
  have N0 := Fr.nil n0
  show own_Go p e below (fun o u L => FrameEnd s o u L ({ frames := 0, cells := 0, slots := 0, locals := 0 } : Room).cells ({ frames := 0, cells := 0, slots := 0, locals := 0 } : Room).slots) (Q_rm_maxI Z a b r h0 n0) (s₁.setTop (entryFrame m #[(.int a), (.int b)] 2))
  rw [own_ef_rm_maxI m a b]
  show own_Go _ _ _ _ _ (State.setTop _ (mkF _ 0 #[.val (.int a), .val (.int b)] []))
  refine own_iloadN X0 hx 1 rfl (hb hby own_d1_0) rfl ?_
  refine own_iloadN X0 hx 2 rfl (hb hby own_d1_1) rfl ?_
  by_cases hc101 : a < b
  ·
    refine own_icmpYes X0 hx 9 (hb hby own_d1_2) (tlt hc101).1 (by decide) rfl ?_
    refine own_iloadN X0 hx 10 rfl (hb hby own_d1_9) rfl ?_
    refine own_ret X0 (some (.int b)) (fun h => by rw [Bd.returns] at h; cases h) Bd.notSynchronized (by decide) (by decide) ?_ (fun fs hr => own_retI X0 hx Bd.returns (hb hby own_d1_10) hr)
    show Q_rm_maxI Z a b r h0 n0 _ s₁.heap _
    rw [e0]
    exact ⟨by rw [← hres, if_pos hc101], N0, rfl⟩
  ·
    refine own_icmpNo X0 hx 5 rfl (hb hby own_d1_2) (flt hc101).1 ?_
    refine own_iloadN X0 hx 6 rfl (hb hby own_d1_5) rfl ?_
    refine own_goto X0 hx 10 (hb hby own_d1_6) (by decide) rfl ?_
    refine own_ret X0 (some (.int a)) (fun h => by rw [Bd.returns] at h; cases h) Bd.notSynchronized (by decide) (by decide) ?_ (fun fs hr => own_retI X0 hx Bd.returns (hb hby own_d1_10) hr)
    show Q_rm_maxI Z a b r h0 n0 _ s₁.heap _
    rw [e0]
    exact ⟨by rw [← hres, if_neg hc101], N0, rfl⟩
theorem own_ef_rm_maxJ (m : MethodId) (a : Int64) (b : Int64) : entryFrame m #[(.long a), (.long b)] 4 = mkF m 0 #[.val (.long a), .second, .val (.long b), .second] [] := by first | (simp [entryFrame, mkF, argsToLocals, Value.category]; done) | rfl
def Q_rm_maxJ (Z : State) (a : Int64) (b : Int64) (r : Int64) (h0 : Heap) (n0 : Nat) (v : Option Value) (h : Heap) (L : List Loc) : Prop := v = some (.long r) ∧ Fr n0 L ∧ h = h0
theorem own_d12_0 : decode jdk_29_method_66_code 0 = .ok (.lload_n 0, 1) := by decide +kernel
theorem own_d12_1 : decode jdk_29_method_66_code 1 = .ok (.lload_n 2, 1) := by decide +kernel
theorem own_d12_2 : decode jdk_29_method_66_code 2 = .ok (.lcmp, 1) := by decide +kernel
theorem own_d12_3 : decode jdk_29_method_66_code 3 = .ok (.ifCond .lt 7, 3) := by decide +kernel
theorem own_d12_10 : decode jdk_29_method_66_code 10 = .ok (.lload_n 2, 1) := by decide +kernel
theorem own_d12_11 : decode jdk_29_method_66_code 11 = .ok (.lreturn, 1) := by decide +kernel
theorem own_d12_6 : decode jdk_29_method_66_code 6 = .ok (.lload_n 0, 1) := by decide +kernel
theorem own_d12_7 : decode jdk_29_method_66_code 7 = .ok (.goto 4, 3) := by decide +kernel
set_option maxRecDepth 65536 in
set_option maxHeartbeats 40000000 in
theorem rm_maxJ (l : Launch) (Z : State) (a0 : Array Value) (hw : ∀ d ∈ tables_1, d.before a0 Z = true) (ws : List Jvm.Cond) (a : Int64) (b : Int64) (r : Int64) (h0 : Heap) (n0 : Nat) (Z0 : n0 ≤ h0.size) (hres : (if a < b then b else a) = r) :
    MetFree l (⟨"java/lang/Math", "max", "(JJ)J"⟩ : MethodName) (head1 (Jvm.Cond.code (⟨"java/lang/Math", "max", "(JJ)J"⟩ : MethodName) jdk_29_method_66_code 4 (some .long) :: ws) ({ frames := 0, cells := 0, slots := 0, locals := 0 } : Room)) (fun aa U => aa = #[(.long a), (.long b)] ∧ Z.Warmed39 U.vm ∧ U.heap = h0) (fun _ _ _ _ _ => True) (fun _ U ou U' => ∃ v L, ou = .returned v ∧ Q_rm_maxJ Z a b r h0 n0 v U'.heap L ∧ FrameEnd U ou U' L ({ frames := 0, cells := 0, slots := 0, locals := 0 } : Room).cells ({ frames := 0, cells := 0, slots := 0, locals := 0 } : Room).slots) := by
  refine MetFree.of_bodySF (Jvm.Free.JP.mathPlain rfl (by decide +kernel)) hisR ?_
  intro p e s m args below meth c s₁ Bd hml0 hP hK
  obtain ⟨rfl, hZ, hh⟩ := hP
  have hx := Bd.exec
  have hby := Bd.bytes
  have hml : c.maxLocals = 4 := hml0
  have hown : s.vm.findClass "java/lang/Math" = some m.cls := findClass_of_methodNamed Bd.named
  have hnm := (name_of_methodNamed Bd.named Bd.method).1
  have X0 : Stand p l e ({ frames := 0, cells := 0, slots := 0, locals := 0 } : Room) s m #[(.long a), (.long b)] below meth c s₁ [] 0 0 := Stand.of_body Bd
  have e0 : s₁.heap = h0 := by rw [← hh, Bd.state]; rfl
  have N0 := Fr.nil n0
  show own_Go p e below (fun o u L => FrameEnd s o u L ({ frames := 0, cells := 0, slots := 0, locals := 0 } : Room).cells ({ frames := 0, cells := 0, slots := 0, locals := 0 } : Room).slots) (Q_rm_maxJ Z a b r h0 n0) (s₁.setTop (entryFrame m #[(.long a), (.long b)] 4))
  rw [own_ef_rm_maxJ m a b]
  show own_Go _ _ _ _ _ (State.setTop _ (mkF _ 0 #[.val (.long a), .second, .val (.long b), .second] []))
  refine own_lloadN X0 hx 1 rfl (hb hby own_d12_0) rfl ?_
  refine own_lloadN X0 hx 2 rfl (hb hby own_d12_1) rfl ?_
  refine own_lcmp X0 hx 3 rfl (hb hby own_d12_2) _ rfl ?_
  by_cases hc102 : a < b
  ·
    refine own_ifYes X0 hx 10 (hb hby own_d12_3) ((if0 _ _).trans (tlt ((lw_lt _ _).mpr hc102)).1) (by decide) rfl ?_
    refine own_lloadN X0 hx 11 rfl (hb hby own_d12_10) rfl ?_
    refine own_ret X0 (some (.long b)) (fun h => by rw [Bd.returns] at h; cases h) Bd.notSynchronized (by decide) (by decide) ?_ (fun fs hr => own_retJ X0 hx Bd.returns (hb hby own_d12_11) hr)
    show Q_rm_maxJ Z a b r h0 n0 _ s₁.heap _
    rw [e0]
    exact ⟨by rw [← hres, if_pos hc102], N0, rfl⟩
  ·
    refine own_ifNo X0 hx 6 rfl (hb hby own_d12_3) ((if0 _ _).trans (flt (fun z => hc102 ((lw_lt _ _).mp z))).1) ?_
    refine own_lloadN X0 hx 7 rfl (hb hby own_d12_6) rfl ?_
    refine own_goto X0 hx 11 (hb hby own_d12_7) (by decide) rfl ?_
    refine own_ret X0 (some (.long a)) (fun h => by rw [Bd.returns] at h; cases h) Bd.notSynchronized (by decide) (by decide) ?_ (fun fs hr => own_retJ X0 hx Bd.returns (hb hby own_d12_11) hr)
    show Q_rm_maxJ Z a b r h0 n0 _ s₁.heap _
    rw [e0]
    exact ⟨by rw [← hres, if_neg hc102], N0, rfl⟩
theorem own_ef_rm_minI (m : MethodId) (a : Int32) (b : Int32) : entryFrame m #[(.int a), (.int b)] 2 = mkF m 0 #[.val (.int a), .val (.int b)] [] := by first | (simp [entryFrame, mkF, argsToLocals, Value.category]; done) | rfl
def Q_rm_minI (Z : State) (a : Int32) (b : Int32) (r : Int32) (h0 : Heap) (n0 : Nat) (v : Option Value) (h : Heap) (L : List Loc) : Prop := v = some (.int r) ∧ Fr n0 L ∧ h = h0
theorem own_d2_0 : decode jdk_29_method_69_code 0 = .ok (.iload_n 0, 1) := by decide +kernel
theorem own_d2_1 : decode jdk_29_method_69_code 1 = .ok (.iload_n 1, 1) := by decide +kernel
theorem own_d2_2 : decode jdk_29_method_69_code 2 = .ok (.if_icmp .gt 7, 3) := by decide +kernel
theorem own_d2_9 : decode jdk_29_method_69_code 9 = .ok (.iload_n 1, 1) := by decide +kernel
theorem own_d2_10 : decode jdk_29_method_69_code 10 = .ok (.ireturn, 1) := by decide +kernel
theorem own_d2_5 : decode jdk_29_method_69_code 5 = .ok (.iload_n 0, 1) := by decide +kernel
theorem own_d2_6 : decode jdk_29_method_69_code 6 = .ok (.goto 4, 3) := by decide +kernel
set_option maxRecDepth 65536 in
set_option maxHeartbeats 40000000 in
theorem rm_minI (l : Launch) (Z : State) (a0 : Array Value) (hw : ∀ d ∈ tables_1, d.before a0 Z = true) (ws : List Jvm.Cond) (a : Int32) (b : Int32) (r : Int32) (h0 : Heap) (n0 : Nat) (Z0 : n0 ≤ h0.size) (hres : (if b < a then b else a) = r) :
    MetFree l (⟨"java/lang/Math", "min", "(II)I"⟩ : MethodName) (head1 (Jvm.Cond.code (⟨"java/lang/Math", "min", "(II)I"⟩ : MethodName) jdk_29_method_69_code 2 (some .int) :: ws) ({ frames := 0, cells := 0, slots := 0, locals := 0 } : Room)) (fun aa U => aa = #[(.int a), (.int b)] ∧ Z.Warmed39 U.vm ∧ U.heap = h0) (fun _ _ _ _ _ => True) (fun _ U ou U' => ∃ v L, ou = .returned v ∧ Q_rm_minI Z a b r h0 n0 v U'.heap L ∧ FrameEnd U ou U' L ({ frames := 0, cells := 0, slots := 0, locals := 0 } : Room).cells ({ frames := 0, cells := 0, slots := 0, locals := 0 } : Room).slots) := by
  refine MetFree.of_bodySF (Jvm.Free.JP.mathPlain rfl (by decide +kernel)) hisR ?_
  intro p e s m args below meth c s₁ Bd hml0 hP hK
  obtain ⟨rfl, hZ, hh⟩ := hP
  have hx := Bd.exec
  have hby := Bd.bytes
  have hml : c.maxLocals = 2 := hml0
  have hown : s.vm.findClass "java/lang/Math" = some m.cls := findClass_of_methodNamed Bd.named
  have hnm := (name_of_methodNamed Bd.named Bd.method).1
  have X0 : Stand p l e ({ frames := 0, cells := 0, slots := 0, locals := 0 } : Room) s m #[(.int a), (.int b)] below meth c s₁ [] 0 0 := Stand.of_body Bd
  have e0 : s₁.heap = h0 := by rw [← hh, Bd.state]; rfl
  have N0 := Fr.nil n0
  show own_Go p e below (fun o u L => FrameEnd s o u L ({ frames := 0, cells := 0, slots := 0, locals := 0 } : Room).cells ({ frames := 0, cells := 0, slots := 0, locals := 0 } : Room).slots) (Q_rm_minI Z a b r h0 n0) (s₁.setTop (entryFrame m #[(.int a), (.int b)] 2))
  rw [own_ef_rm_minI m a b]
  show own_Go _ _ _ _ _ (State.setTop _ (mkF _ 0 #[.val (.int a), .val (.int b)] []))
  refine own_iloadN X0 hx 1 rfl (hb hby own_d2_0) rfl ?_
  refine own_iloadN X0 hx 2 rfl (hb hby own_d2_1) rfl ?_
  by_cases hc103 : b < a
  ·
    refine own_icmpYes X0 hx 9 (hb hby own_d2_2) (tlt hc103).2.2.1 (by decide) rfl ?_
    refine own_iloadN X0 hx 10 rfl (hb hby own_d2_9) rfl ?_
    refine own_ret X0 (some (.int b)) (fun h => by rw [Bd.returns] at h; cases h) Bd.notSynchronized (by decide) (by decide) ?_ (fun fs hr => own_retI X0 hx Bd.returns (hb hby own_d2_10) hr)
    show Q_rm_minI Z a b r h0 n0 _ s₁.heap _
    rw [e0]
    exact ⟨by rw [← hres, if_pos hc103], N0, rfl⟩
  ·
    refine own_icmpNo X0 hx 5 rfl (hb hby own_d2_2) (flt hc103).2.2.1 ?_
    refine own_iloadN X0 hx 6 rfl (hb hby own_d2_5) rfl ?_
    refine own_goto X0 hx 10 (hb hby own_d2_6) (by decide) rfl ?_
    refine own_ret X0 (some (.int a)) (fun h => by rw [Bd.returns] at h; cases h) Bd.notSynchronized (by decide) (by decide) ?_ (fun fs hr => own_retI X0 hx Bd.returns (hb hby own_d2_10) hr)
    show Q_rm_minI Z a b r h0 n0 _ s₁.heap _
    rw [e0]
    exact ⟨by rw [← hres, if_neg hc103], N0, rfl⟩
theorem own_pn0 : plainName "com/example/portunus/portunus/RateLimiterConfig" = true := by first | (simp [plainName, overriddenIn]; done) | decide +kernel
theorem own_ef_rm_cfg (m : MethodId) (o : Addr) (k : Int32) (ms : Int64) (ty : Addr) : entryFrame m #[(.ref o), (.int k), (.long ms), (.ref ty)] 5 = mkF m 0 #[.val (.ref o), .val (.int k), .val (.long ms), .second, .val (.ref ty)] [] := by first | (simp [entryFrame, mkF, argsToLocals, Value.category]; done) | rfl
def Q_rm_cfg (Z : State) (o : Addr) (k : Int32) (ms : Int64) (ty : Addr) (h0 : Heap) (n0 : Nat) (v : Option Value) (h : Heap) (L : List Loc) : Prop := v = none ∧ Fr n0 L ∧ Keep h0 h [o] ∧ Exa Z h o "com/example/portunus/portunus/RateLimiterConfig" ∧ Fld Z h o "com/example/portunus/portunus/RateLimiterConfig" "maxRequests" "I" (.int k) ∧ Fld Z h o "com/example/portunus/portunus/RateLimiterConfig" "timeWindowMillis" "J" (.long ms)
theorem own_d3_0 : decode prog_22_method_1_code 0 = .ok (.aload_n 0, 1) := by decide +kernel
theorem own_d3_1 : decode prog_22_method_1_code 1 = .ok (.invokespecial 1, 3) := by decide +kernel
theorem own_d3_4 : decode prog_22_method_1_code 4 = .ok (.iload_n 1, 1) := by decide +kernel
theorem own_d3_5 : decode prog_22_method_1_code 5 = .ok (.ifCond .gt 17, 3) := by decide +kernel
theorem own_d3_22 : decode prog_22_method_1_code 22 = .ok (.lload_n 2, 1) := by decide +kernel
theorem own_d3_23 : decode prog_22_method_1_code 23 = .ok (.lconst 0, 1) := by decide +kernel
theorem own_d3_24 : decode prog_22_method_1_code 24 = .ok (.lcmp, 1) := by decide +kernel
theorem own_d3_25 : decode prog_22_method_1_code 25 = .ok (.ifCond .gt 17, 3) := by decide +kernel
theorem own_d3_42 : decode prog_22_method_1_code 42 = .ok (.lload_n 2, 1) := by decide +kernel
theorem own_d3_43 : decode prog_22_method_1_code 43 = .ok (.ldc2_w 23, 3) := by decide +kernel
theorem own_d3_46 : decode prog_22_method_1_code 46 = .ok (.lcmp, 1) := by decide +kernel
theorem own_d3_47 : decode prog_22_method_1_code 47 = .ok (.ifCond .le 17, 3) := by decide +kernel
theorem own_d3_64 : decode prog_22_method_1_code 64 = .ok (.aload 4, 2) := by decide +kernel
theorem own_d3_66 : decode prog_22_method_1_code 66 = .ok (.ifnonnull 13, 3) := by decide +kernel
theorem own_d3_79 : decode prog_22_method_1_code 79 = .ok (.aload_n 0, 1) := by decide +kernel
theorem own_d3_80 : decode prog_22_method_1_code 80 = .ok (.iload_n 1, 1) := by decide +kernel
theorem own_d3_81 : decode prog_22_method_1_code 81 = .ok (.putfield 28, 3) := by decide +kernel
theorem own_d3_84 : decode prog_22_method_1_code 84 = .ok (.aload_n 0, 1) := by decide +kernel
theorem own_d3_85 : decode prog_22_method_1_code 85 = .ok (.lload_n 2, 1) := by decide +kernel
theorem own_d3_86 : decode prog_22_method_1_code 86 = .ok (.putfield 32, 3) := by decide +kernel
theorem own_d3_89 : decode prog_22_method_1_code 89 = .ok (.aload_n 0, 1) := by decide +kernel
theorem own_d3_90 : decode prog_22_method_1_code 90 = .ok (.aload 4, 2) := by decide +kernel
theorem own_d3_92 : decode prog_22_method_1_code 92 = .ok (.putfield 36, 3) := by decide +kernel
theorem own_d3_95 : decode prog_22_method_1_code 95 = .ok (.return_, 1) := by decide +kernel
set_option maxRecDepth 65536 in
set_option maxHeartbeats 40000000 in
theorem rm_cfg (l : Launch) (Z : State) (a0 : Array Value) (hw : ∀ d ∈ tables_1, d.before a0 Z = true) (ws : List Jvm.Cond) (o : Addr) (k : Int32) (ms : Int64) (ty : Addr) (h0 : Heap) (n0 : Nat) (Z0 : n0 ≤ h0.size) (E1 : Exa Z h0 o "com/example/portunus/portunus/RateLimiterConfig") (F1 : Fld Z h0 o "com/example/portunus/portunus/RateLimiterConfig" "maxRequests" "I" (.int (0 : Int32))) (F2 : Fld Z h0 o "com/example/portunus/portunus/RateLimiterConfig" "timeWindowMillis" "J" (.long (0 : Int64))) (F3 : Fld Z h0 o "com/example/portunus/portunus/RateLimiterConfig" "type" "Lcom/example/portunus/portunus/RateLimiterType;" .null) (g_o : n0 ≤ o) (h1 : 0 < k) (h2 : 0 < ms) (h3 : ¬ (9223372036854 : Int64) < ms) :
    MetFree l (⟨"com/example/portunus/portunus/RateLimiterConfig", "<init>", "(IJLcom/example/portunus/portunus/RateLimiterType;)V"⟩ : MethodName) (head1 (Jvm.Cond.code (⟨"com/example/portunus/portunus/RateLimiterConfig", "<init>", "(IJLcom/example/portunus/portunus/RateLimiterType;)V"⟩ : MethodName) prog_22_method_1_code 5 none :: ws) ({ frames := 1, cells := 0, slots := 0, locals := 12 } : Room)) (fun aa U => aa = #[(.ref o), (.int k), (.long ms), (.ref ty)] ∧ Z.Warmed39 U.vm ∧ U.heap = h0) (fun _ _ _ _ _ => True) (fun _ U ou U' => ∃ v L, ou = .returned v ∧ Q_rm_cfg Z o k ms ty h0 n0 v U'.heap L ∧ FrameEnd U ou U' L ({ frames := 1, cells := 0, slots := 0, locals := 12 } : Room).cells ({ frames := 1, cells := 0, slots := 0, locals := 12 } : Room).slots) := by
  refine MetFree.of_bodySF (plainFor_of_name own_pn0) hisR ?_
  intro p e s m args below meth c s₁ Bd hml0 hP hK
  obtain ⟨rfl, hZ, hh⟩ := hP
  have hx := Bd.exec
  have hby := Bd.bytes
  have hml : c.maxLocals = 5 := hml0
  have hown : s.vm.findClass "com/example/portunus/portunus/RateLimiterConfig" = some m.cls := findClass_of_methodNamed Bd.named
  have hnm := (name_of_methodNamed Bd.named Bd.method).1
  have X0 : Stand p l e ({ frames := 1, cells := 0, slots := 0, locals := 12 } : Room) s m #[(.ref o), (.int k), (.long ms), (.ref ty)] below meth c s₁ [] 0 0 := Stand.of_body Bd
  have e0 : s₁.heap = h0 := by rw [← hh, Bd.state]; rfl
  have N0 := Fr.nil n0
  have K0 := Keep.refl h0 [o]
  show own_Go p e below (fun o u L => FrameEnd s o u L ({ frames := 1, cells := 0, slots := 0, locals := 12 } : Room).cells ({ frames := 1, cells := 0, slots := 0, locals := 12 } : Room).slots) (Q_rm_cfg Z o k ms ty h0 n0) (s₁.setTop (entryFrame m #[(.ref o), (.int k), (.long ms), (.ref ty)] 5))
  rw [own_ef_rm_cfg m o k ms ty]
  show own_Go _ _ _ _ _ (State.setTop _ (mkF _ 0 #[.val (.ref o), .val (.int k), .val (.long ms), .second, .val (.ref ty)] []))
  refine own_aloadN X0 hx 1 rfl (hb hby own_d3_0) rfl rfl ?_
  refine own_initO X0 hx hZ hown (own_hw hw 23 rfl) (own_hw hw 24 rfl) (own_hw hw 25 rfl) e0 (by rw [hml]; rfl) 4 rfl (hb hby own_d3_1) (by decide) 0 (Nat.le_of_eq rfl) (by decide) fun T104 X104 e104 => ?_
  refine own_iloadN X104 hx 5 rfl (hb hby own_d3_4) rfl ?_
  refine own_ifYes X104 hx 22 (hb hby own_d3_5) ((if0 _ _).trans (tlt h1).2.2.1) (by decide) rfl ?_
  refine own_lloadN X104 hx 23 rfl (hb hby own_d3_22) rfl ?_
  refine own_lconst X104 hx 24 rfl (hb hby own_d3_23) (0 : Int64) rfl ?_
  refine own_lcmp X104 hx 25 rfl (hb hby own_d3_24) _ rfl ?_
  refine own_ifYes X104 hx 42 (hb hby own_d3_25) ((if0 _ _).trans (tlt ((lw_gt _ _).mpr h2)).2.2.1) (by decide) rfl ?_
  refine own_lloadN X104 hx 43 rfl (hb hby own_d3_42) rfl ?_
  refine own_ldcJ X104 hx hZ hown (own_hw hw 26 rfl) 46 rfl (hb hby own_d3_43) ?_
  refine own_lcmp X104 hx 47 rfl (hb hby own_d3_46) _ rfl ?_
  refine own_ifYes X104 hx 64 (hb hby own_d3_47) ((if0 _ _).trans (flt (fun z => h3 ((lw_gt _ _).mp z))).2.2.2) (by decide) rfl ?_
  refine own_aload X104 hx 66 rfl (hb hby own_d3_64) rfl rfl ?_
  refine own_ifnonnullYes X104 hx 79 (hb hby own_d3_66) (by decide) rfl ?_
  refine own_aloadN X104 hx 80 rfl (hb hby own_d3_79) rfl rfl ?_
  refine own_iloadN X104 hx 81 rfl (hb hby own_d3_80) rfl ?_
  refine own_putF X104 hx hZ (host := "") hown (Or.inl (own_hw hw 27 rfl)) Via.refl e104 F1 E1 (Or.inr ⟨(own_hw hw 28 rfl), rfl, hnm⟩) (own_hw hw 15 rfl) (ty := .int) (by decide) rfl rfl 84 rfl (hb hby own_d3_81) fun T105 h105 X105 e105 W105 => ?_
  have f106 := E1.wr W105
  have f107 := F2.other W105 (Or.inr (slot_ne (Or.inr (own_hw hw 30 rfl)) (Or.inr (own_hw hw 28 rfl)) (by decide) (t := .long) (t' := .int) (by decide) (by decide)))
  have f108 := F3.other W105 (Or.inr (slot_ne (Or.inr (own_hw hw 32 rfl)) (Or.inr (own_hw hw 28 rfl)) (by decide) (t := (.object "com/example/portunus/portunus/RateLimiterType")) (t' := .int) (by decide) (by decide)))
  have z109 := Nat.le_trans Z0 (Keep.of_wr W105).1
  have K110 := K0.wr W105 (Or.inl (List.mem_of_getElem? (i := 0) rfl))
  have f111 := F1.same W105
  have N112 := Fr.snoc X105 N0 g_o
  refine own_aloadN X105 hx 85 rfl (hb hby own_d3_84) rfl rfl ?_
  refine own_lloadN X105 hx 86 rfl (hb hby own_d3_85) rfl ?_
  refine own_putF X105 hx hZ (host := "") hown (Or.inl (own_hw hw 29 rfl)) Via.refl e105 f107 f106 (Or.inr ⟨(own_hw hw 30 rfl), rfl, hnm⟩) (own_hw hw 15 rfl) (ty := .long) (by decide) rfl rfl 89 rfl (hb hby own_d3_86) fun T113 h113 X113 e113 W113 => ?_
  have f114 := f106.wr W113
  have f115 := f108.other W113 (Or.inr (slot_ne (Or.inr (own_hw hw 32 rfl)) (Or.inr (own_hw hw 30 rfl)) (by decide) (t := (.object "com/example/portunus/portunus/RateLimiterType")) (t' := .long) (by decide) (by decide)))
  have f116 := f111.other W113 (Or.inr (slot_ne (Or.inr (own_hw hw 28 rfl)) (Or.inr (own_hw hw 30 rfl)) (by decide) (t := .int) (t' := .long) (by decide) (by decide)))
  have z117 := Nat.le_trans z109 (Keep.of_wr W113).1
  have K118 := K110.wr W113 (Or.inl (List.mem_of_getElem? (i := 0) rfl))
  have f119 := f107.same W113
  have N120 := Fr.snoc X113 N112 g_o
  refine own_aloadN X113 hx 90 rfl (hb hby own_d3_89) rfl rfl ?_
  refine own_aload X113 hx 92 rfl (hb hby own_d3_90) rfl rfl ?_
  refine own_putF X113 hx hZ (host := "") hown (Or.inl (own_hw hw 31 rfl)) Via.refl e113 f115 f114 (Or.inr ⟨(own_hw hw 32 rfl), rfl, hnm⟩) (own_hw hw 15 rfl) (ty := (.object "com/example/portunus/portunus/RateLimiterType")) (by decide) rfl rfl 95 rfl (hb hby own_d3_92) fun T121 h121 X121 e121 W121 => ?_
  have f122 := f114.wr W121
  have f123 := f116.other W121 (Or.inr (slot_ne (Or.inr (own_hw hw 28 rfl)) (Or.inr (own_hw hw 32 rfl)) (by decide) (t := .int) (t' := (.object "com/example/portunus/portunus/RateLimiterType")) (by decide) (by decide)))
  have f124 := f119.other W121 (Or.inr (slot_ne (Or.inr (own_hw hw 30 rfl)) (Or.inr (own_hw hw 32 rfl)) (by decide) (t := .long) (t' := (.object "com/example/portunus/portunus/RateLimiterType")) (by decide) (by decide)))
  have z125 := Nat.le_trans z117 (Keep.of_wr W121).1
  have K126 := K118.wr W121 (Or.inl (List.mem_of_getElem? (i := 0) rfl))
  have f127 := f115.same W121
  have N128 := Fr.snoc X121 N120 g_o
  refine own_ret X121 none (fun _ => rfl) Bd.notSynchronized (by decide) (by decide) ?_ (fun fs hr => X121.returnOut hx Bd.returns (hb hby own_d3_95) hr)
  show Q_rm_cfg Z o k ms ty h0 n0 _ T121.heap _
  rw [e121]
  exact ⟨rfl, N128, K126, f122, f123, f124⟩
theorem own_ef_rm_getmax (m : MethodId) (o : Addr) : entryFrame m #[(.ref o)] 1 = mkF m 0 #[.val (.ref o)] [] := by first | (simp [entryFrame, mkF, argsToLocals, Value.category]; done) | rfl
def Q_rm_getmax (Z : State) (o : Addr) (u : Int32) (h0 : Heap) (n0 : Nat) (v : Option Value) (h : Heap) (L : List Loc) : Prop := v = some (.int u) ∧ Fr n0 L ∧ h = h0
theorem own_d6_0 : decode prog_22_method_2_code 0 = .ok (.aload_n 0, 1) := by decide +kernel
theorem own_d6_1 : decode prog_22_method_2_code 1 = .ok (.getfield 28, 3) := by decide +kernel
theorem own_d6_4 : decode prog_22_method_2_code 4 = .ok (.ireturn, 1) := by decide +kernel
set_option maxRecDepth 65536 in
set_option maxHeartbeats 40000000 in
theorem rm_getmax (l : Launch) (Z : State) (a0 : Array Value) (hw : ∀ d ∈ tables_1, d.before a0 Z = true) (ws : List Jvm.Cond) (o : Addr) (u : Int32) (h0 : Heap) (n0 : Nat) (Z0 : n0 ≤ h0.size) (F1 : Fld Z h0 o "com/example/portunus/portunus/RateLimiterConfig" "maxRequests" "I" (.int u)) :
    MetFree l (⟨"com/example/portunus/portunus/RateLimiterConfig", "getMaxRequests", "()I"⟩ : MethodName) (head1 (Jvm.Cond.code (⟨"com/example/portunus/portunus/RateLimiterConfig", "getMaxRequests", "()I"⟩ : MethodName) prog_22_method_2_code 1 (some .int) :: ws) ({ frames := 0, cells := 0, slots := 0, locals := 0 } : Room)) (fun aa U => aa = #[(.ref o)] ∧ Z.Warmed39 U.vm ∧ U.heap = h0) (fun _ _ _ _ _ => True) (fun _ U ou U' => ∃ v L, ou = .returned v ∧ Q_rm_getmax Z o u h0 n0 v U'.heap L ∧ FrameEnd U ou U' L ({ frames := 0, cells := 0, slots := 0, locals := 0 } : Room).cells ({ frames := 0, cells := 0, slots := 0, locals := 0 } : Room).slots) := by
  refine MetFree.of_bodySF (plainFor_of_name own_pn0) hisR ?_
  intro p e s m args below meth c s₁ Bd hml0 hP hK
  obtain ⟨rfl, hZ, hh⟩ := hP
  have hx := Bd.exec
  have hby := Bd.bytes
  have hml : c.maxLocals = 1 := hml0
  have hown : s.vm.findClass "com/example/portunus/portunus/RateLimiterConfig" = some m.cls := findClass_of_methodNamed Bd.named
  have hnm := (name_of_methodNamed Bd.named Bd.method).1
  have X0 : Stand p l e ({ frames := 0, cells := 0, slots := 0, locals := 0 } : Room) s m #[(.ref o)] below meth c s₁ [] 0 0 := Stand.of_body Bd
  have e0 : s₁.heap = h0 := by rw [← hh, Bd.state]; rfl
  have N0 := Fr.nil n0
  show own_Go p e below (fun o u L => FrameEnd s o u L ({ frames := 0, cells := 0, slots := 0, locals := 0 } : Room).cells ({ frames := 0, cells := 0, slots := 0, locals := 0 } : Room).slots) (Q_rm_getmax Z o u h0 n0) (s₁.setTop (entryFrame m #[(.ref o)] 1))
  rw [own_ef_rm_getmax m o]
  show own_Go _ _ _ _ _ (State.setTop _ (mkF _ 0 #[.val (.ref o)] []))
  refine own_aloadN X0 hx 1 rfl (hb hby own_d6_0) rfl rfl ?_
  refine own_getF X0 hx hZ (host := "") hown (Or.inl (own_hw hw 27 rfl)) Via.refl e0 F1 4 rfl (hb hby own_d6_1) fun T129 X129 e129 => ?_
  refine own_ret X129 (some (.int u)) (fun h => by rw [Bd.returns] at h; cases h) Bd.notSynchronized (by decide) (by decide) ?_ (fun fs hr => own_retI X129 hx Bd.returns (hb hby own_d6_4) hr)
  show Q_rm_getmax Z o u h0 n0 _ T129.heap _
  rw [e129]
  exact ⟨rfl, N0, rfl⟩
theorem own_ef_rm_getwin (m : MethodId) (o : Addr) : entryFrame m #[(.ref o)] 1 = mkF m 0 #[.val (.ref o)] [] := by first | (simp [entryFrame, mkF, argsToLocals, Value.category]; done) | rfl
def Q_rm_getwin (Z : State) (o : Addr) (ms : Int64) (h0 : Heap) (n0 : Nat) (v : Option Value) (h : Heap) (L : List Loc) : Prop := v = some (.long (ms * (1000000 : Int64))) ∧ Fr n0 L ∧ h = h0
theorem own_d7_0 : decode prog_22_method_4_code 0 = .ok (.aload_n 0, 1) := by decide +kernel
theorem own_d7_1 : decode prog_22_method_4_code 1 = .ok (.getfield 32, 3) := by decide +kernel
theorem own_d7_4 : decode prog_22_method_4_code 4 = .ok (.ldc2_w 40, 3) := by decide +kernel
theorem own_d7_7 : decode prog_22_method_4_code 7 = .ok (.lmul, 1) := by decide +kernel
theorem own_d7_8 : decode prog_22_method_4_code 8 = .ok (.lreturn, 1) := by decide +kernel
set_option maxRecDepth 65536 in
set_option maxHeartbeats 40000000 in
theorem rm_getwin (l : Launch) (Z : State) (a0 : Array Value) (hw : ∀ d ∈ tables_1, d.before a0 Z = true) (ws : List Jvm.Cond) (o : Addr) (ms : Int64) (h0 : Heap) (n0 : Nat) (Z0 : n0 ≤ h0.size) (F1 : Fld Z h0 o "com/example/portunus/portunus/RateLimiterConfig" "timeWindowMillis" "J" (.long ms)) :
    MetFree l (⟨"com/example/portunus/portunus/RateLimiterConfig", "getTimeWindowNanos", "()J"⟩ : MethodName) (head1 (Jvm.Cond.code (⟨"com/example/portunus/portunus/RateLimiterConfig", "getTimeWindowNanos", "()J"⟩ : MethodName) prog_22_method_4_code 1 (some .long) :: ws) ({ frames := 0, cells := 0, slots := 0, locals := 0 } : Room)) (fun aa U => aa = #[(.ref o)] ∧ Z.Warmed39 U.vm ∧ U.heap = h0) (fun _ _ _ _ _ => True) (fun _ U ou U' => ∃ v L, ou = .returned v ∧ Q_rm_getwin Z o ms h0 n0 v U'.heap L ∧ FrameEnd U ou U' L ({ frames := 0, cells := 0, slots := 0, locals := 0 } : Room).cells ({ frames := 0, cells := 0, slots := 0, locals := 0 } : Room).slots) := by
  refine MetFree.of_bodySF (plainFor_of_name own_pn0) hisR ?_
  intro p e s m args below meth c s₁ Bd hml0 hP hK
  obtain ⟨rfl, hZ, hh⟩ := hP
  have hx := Bd.exec
  have hby := Bd.bytes
  have hml : c.maxLocals = 1 := hml0
  have hown : s.vm.findClass "com/example/portunus/portunus/RateLimiterConfig" = some m.cls := findClass_of_methodNamed Bd.named
  have hnm := (name_of_methodNamed Bd.named Bd.method).1
  have X0 : Stand p l e ({ frames := 0, cells := 0, slots := 0, locals := 0 } : Room) s m #[(.ref o)] below meth c s₁ [] 0 0 := Stand.of_body Bd
  have e0 : s₁.heap = h0 := by rw [← hh, Bd.state]; rfl
  have N0 := Fr.nil n0
  show own_Go p e below (fun o u L => FrameEnd s o u L ({ frames := 0, cells := 0, slots := 0, locals := 0 } : Room).cells ({ frames := 0, cells := 0, slots := 0, locals := 0 } : Room).slots) (Q_rm_getwin Z o ms h0 n0) (s₁.setTop (entryFrame m #[(.ref o)] 1))
  rw [own_ef_rm_getwin m o]
  show own_Go _ _ _ _ _ (State.setTop _ (mkF _ 0 #[.val (.ref o)] []))
  refine own_aloadN X0 hx 1 rfl (hb hby own_d7_0) rfl rfl ?_
  refine own_getF X0 hx hZ (host := "") hown (Or.inl (own_hw hw 29 rfl)) Via.refl e0 F1 4 rfl (hb hby own_d7_1) fun T130 X130 e130 => ?_
  refine own_ldcJ X130 hx hZ hown (own_hw hw 49 rfl) 7 rfl (hb hby own_d7_4) ?_
  refine own_lmul X130 hx 8 rfl (hb hby own_d7_7) _ rfl ?_
  refine own_ret X130 (some (.long (ms * (1000000 : Int64)))) (fun h => by rw [Bd.returns] at h; cases h) Bd.notSynchronized (by decide) (by decide) ?_ (fun fs hr => own_retJ X130 hx Bd.returns (hb hby own_d7_8) hr)
  show Q_rm_getwin Z o ms h0 n0 _ T130.heap _
  rw [e130]
  exact ⟨rfl, N0, rfl⟩
theorem own_pn1 : plainName "com/example/portunus/portunus/Periods" = true := by first | (simp [plainName, overriddenIn]; done) | decide +kernel
theorem own_ef_rm_per (m : MethodId) (o : Addr) (q : Addr) : entryFrame m #[(.ref o), (.ref q)] 2 = mkF m 0 #[.val (.ref o), .val (.ref q)] [] := by first | (simp [entryFrame, mkF, argsToLocals, Value.category]; done) | rfl
def Q_rm_per (Z : State) (o : Addr) (q : Addr) (k : Int32) (ms : Int64) (h0 : Heap) (n0 : Nat) (v : Option Value) (h : Heap) (L : List Loc) : Prop := v = none ∧ Fr n0 L ∧ Keep h0 h [o] ∧ Exa Z h o "com/example/portunus/portunus/Periods" ∧ Fld Z h o "com/example/portunus/portunus/Periods" "maxRequests" "I" (.int k) ∧ Fld Z h o "com/example/portunus/portunus/Periods" "periodNanos" "J" (.long ((ms * (1000000 : Int64)) / k.toInt64)) ∧ Fld Z h o "com/example/portunus/portunus/Periods" "periodFraction" "J" (.long ((ms * (1000000 : Int64)) % k.toInt64))
theorem own_d5_0 : decode prog_16_method_1_code 0 = .ok (.aload_n 0, 1) := by decide +kernel
theorem own_d5_1 : decode prog_16_method_1_code 1 = .ok (.invokespecial 1, 3) := by decide +kernel
theorem own_d5_4 : decode prog_16_method_1_code 4 = .ok (.aload_n 0, 1) := by decide +kernel
theorem own_d5_5 : decode prog_16_method_1_code 5 = .ok (.aload_n 1, 1) := by decide +kernel
theorem own_d5_6 : decode prog_16_method_1_code 6 = .ok (.invokevirtual 7, 3) := by decide +kernel
theorem own_pd0 : parseMethodDescriptor "()I" = some ⟨[], some .int⟩ := by decide +kernel
theorem own_d5_9 : decode prog_16_method_1_code 9 = .ok (.putfield 13, 3) := by decide +kernel
theorem own_d5_12 : decode prog_16_method_1_code 12 = .ok (.aload_n 0, 1) := by decide +kernel
theorem own_d5_13 : decode prog_16_method_1_code 13 = .ok (.aload_n 1, 1) := by decide +kernel
theorem own_d5_14 : decode prog_16_method_1_code 14 = .ok (.invokevirtual 19, 3) := by decide +kernel
theorem own_pd1 : parseMethodDescriptor "()J" = some ⟨[], some .long⟩ := by decide +kernel
theorem own_d5_17 : decode prog_16_method_1_code 17 = .ok (.putfield 23, 3) := by decide +kernel
theorem own_d5_20 : decode prog_16_method_1_code 20 = .ok (.aload_n 0, 1) := by decide +kernel
theorem own_d5_21 : decode prog_16_method_1_code 21 = .ok (.aload_n 0, 1) := by decide +kernel
theorem own_d5_22 : decode prog_16_method_1_code 22 = .ok (.getfield 23, 3) := by decide +kernel
theorem own_d5_25 : decode prog_16_method_1_code 25 = .ok (.aload_n 0, 1) := by decide +kernel
theorem own_d5_26 : decode prog_16_method_1_code 26 = .ok (.getfield 13, 3) := by decide +kernel
theorem own_d5_29 : decode prog_16_method_1_code 29 = .ok (.i2l, 1) := by decide +kernel
theorem own_d5_30 : decode prog_16_method_1_code 30 = .ok (.ldiv, 1) := by decide +kernel
theorem own_d5_31 : decode prog_16_method_1_code 31 = .ok (.putfield 27, 3) := by decide +kernel
theorem own_d5_34 : decode prog_16_method_1_code 34 = .ok (.aload_n 0, 1) := by decide +kernel
theorem own_d5_35 : decode prog_16_method_1_code 35 = .ok (.aload_n 0, 1) := by decide +kernel
theorem own_d5_36 : decode prog_16_method_1_code 36 = .ok (.getfield 23, 3) := by decide +kernel
theorem own_d5_39 : decode prog_16_method_1_code 39 = .ok (.aload_n 0, 1) := by decide +kernel
theorem own_d5_40 : decode prog_16_method_1_code 40 = .ok (.getfield 13, 3) := by decide +kernel
theorem own_d5_43 : decode prog_16_method_1_code 43 = .ok (.i2l, 1) := by decide +kernel
theorem own_d5_44 : decode prog_16_method_1_code 44 = .ok (.lrem, 1) := by decide +kernel
theorem own_d5_45 : decode prog_16_method_1_code 45 = .ok (.putfield 30, 3) := by decide +kernel
theorem own_d5_48 : decode prog_16_method_1_code 48 = .ok (.aload_n 0, 1) := by decide +kernel
theorem own_d5_49 : decode prog_16_method_1_code 49 = .ok (.aload_n 0, 1) := by decide +kernel
theorem own_d5_50 : decode prog_16_method_1_code 50 = .ok (.getfield 23, 3) := by decide +kernel
theorem own_d5_53 : decode prog_16_method_1_code 53 = .ok (.l2d, 1) := by decide +kernel
theorem own_d5_54 : decode prog_16_method_1_code 54 = .ok (.aload_n 0, 1) := by decide +kernel
theorem own_d5_55 : decode prog_16_method_1_code 55 = .ok (.getfield 13, 3) := by decide +kernel
theorem own_d5_58 : decode prog_16_method_1_code 58 = .ok (.i2d, 1) := by decide +kernel
theorem own_d5_59 : decode prog_16_method_1_code 59 = .ok (.ddiv, 1) := by decide +kernel
theorem own_d5_60 : decode prog_16_method_1_code 60 = .ok (.putfield 33, 3) := by decide +kernel
theorem own_d5_63 : decode prog_16_method_1_code 63 = .ok (.aload_n 0, 1) := by decide +kernel
theorem own_d5_64 : decode prog_16_method_1_code 64 = .ok (.getfield 30, 3) := by decide +kernel
theorem own_d5_67 : decode prog_16_method_1_code 67 = .ok (.lconst 0, 1) := by decide +kernel
theorem own_d5_68 : decode prog_16_method_1_code 68 = .ok (.lcmp, 1) := by decide +kernel
theorem own_d5_69 : decode prog_16_method_1_code 69 = .ok (.ifCond .ne 24, 3) := by decide +kernel
theorem own_d5_72 : decode prog_16_method_1_code 72 = .ok (.aload_n 0, 1) := by decide +kernel
theorem own_d5_73 : decode prog_16_method_1_code 73 = .ok (.aload_n 0, 1) := by decide +kernel
theorem own_d5_74 : decode prog_16_method_1_code 74 = .ok (.getfield 23, 3) := by decide +kernel
theorem own_d5_77 : decode prog_16_method_1_code 77 = .ok (.aload_n 0, 1) := by decide +kernel
theorem own_d5_78 : decode prog_16_method_1_code 78 = .ok (.getfield 27, 3) := by decide +kernel
theorem own_d5_81 : decode prog_16_method_1_code 81 = .ok (.lsub, 1) := by decide +kernel
theorem own_d5_82 : decode prog_16_method_1_code 82 = .ok (.putfield 37, 3) := by decide +kernel
theorem own_d5_85 : decode prog_16_method_1_code 85 = .ok (.aload_n 0, 1) := by decide +kernel
theorem own_d5_86 : decode prog_16_method_1_code 86 = .ok (.lconst 0, 1) := by decide +kernel
theorem own_d5_87 : decode prog_16_method_1_code 87 = .ok (.putfield 40, 3) := by decide +kernel
theorem own_d5_90 : decode prog_16_method_1_code 90 = .ok (.goto 32, 3) := by decide +kernel
theorem own_d5_122 : decode prog_16_method_1_code 122 = .ok (.return_, 1) := by decide +kernel
theorem own_d5_93 : decode prog_16_method_1_code 93 = .ok (.aload_n 0, 1) := by decide +kernel
theorem own_d5_94 : decode prog_16_method_1_code 94 = .ok (.aload_n 0, 1) := by decide +kernel
theorem own_d5_95 : decode prog_16_method_1_code 95 = .ok (.getfield 23, 3) := by decide +kernel
theorem own_d5_98 : decode prog_16_method_1_code 98 = .ok (.aload_n 0, 1) := by decide +kernel
theorem own_d5_99 : decode prog_16_method_1_code 99 = .ok (.getfield 27, 3) := by decide +kernel
theorem own_d5_102 : decode prog_16_method_1_code 102 = .ok (.lsub, 1) := by decide +kernel
theorem own_d5_103 : decode prog_16_method_1_code 103 = .ok (.lconst 1, 1) := by decide +kernel
theorem own_d5_104 : decode prog_16_method_1_code 104 = .ok (.lsub, 1) := by decide +kernel
theorem own_d5_105 : decode prog_16_method_1_code 105 = .ok (.putfield 37, 3) := by decide +kernel
theorem own_d5_108 : decode prog_16_method_1_code 108 = .ok (.aload_n 0, 1) := by decide +kernel
theorem own_d5_109 : decode prog_16_method_1_code 109 = .ok (.aload_n 0, 1) := by decide +kernel
theorem own_d5_110 : decode prog_16_method_1_code 110 = .ok (.getfield 13, 3) := by decide +kernel
theorem own_d5_113 : decode prog_16_method_1_code 113 = .ok (.i2l, 1) := by decide +kernel
theorem own_d5_114 : decode prog_16_method_1_code 114 = .ok (.aload_n 0, 1) := by decide +kernel
theorem own_d5_115 : decode prog_16_method_1_code 115 = .ok (.getfield 30, 3) := by decide +kernel
theorem own_d5_118 : decode prog_16_method_1_code 118 = .ok (.lsub, 1) := by decide +kernel
theorem own_d5_119 : decode prog_16_method_1_code 119 = .ok (.putfield 40, 3) := by decide +kernel
set_option maxRecDepth 65536 in
set_option maxHeartbeats 40000000 in
theorem rm_per (l : Launch) (Z : State) (a0 : Array Value) (hw : ∀ d ∈ tables_1, d.before a0 Z = true) (ws : List Jvm.Cond) (o : Addr) (q : Addr) (k : Int32) (ms : Int64) (h0 : Heap) (n0 : Nat) (Z0 : n0 ≤ h0.size) (E1 : Exa Z h0 o "com/example/portunus/portunus/Periods") (F_maxRequests : Fld Z h0 o "com/example/portunus/portunus/Periods" "maxRequests" "I" (.int (0 : Int32))) (F_windowNanos : Fld Z h0 o "com/example/portunus/portunus/Periods" "windowNanos" "J" (.long (0 : Int64))) (F_periodNanos : Fld Z h0 o "com/example/portunus/portunus/Periods" "periodNanos" "J" (.long (0 : Int64))) (F_periodFraction : Fld Z h0 o "com/example/portunus/portunus/Periods" "periodFraction" "J" (.long (0 : Int64))) (F_periodForGuesses : Fld Z h0 o "com/example/portunus/portunus/Periods" "periodForGuesses" "D" (.double (0 : UInt64))) (F_roomMarkNanos : Fld Z h0 o "com/example/portunus/portunus/Periods" "roomMarkNanos" "J" (.long (0 : Int64))) (F_roomMarkFraction : Fld Z h0 o "com/example/portunus/portunus/Periods" "roomMarkFraction" "J" (.long (0 : Int64))) (g_o : n0 ≤ o) (Ec : Exa Z h0 q "com/example/portunus/portunus/RateLimiterConfig") (Fk : Fld Z h0 q "com/example/portunus/portunus/RateLimiterConfig" "maxRequests" "I" (.int k)) (Fm : Fld Z h0 q "com/example/portunus/portunus/RateLimiterConfig" "timeWindowMillis" "J" (.long ms)) (hne : q ≠ o) (hk : ¬ k.toInt64 = 0) (hk0 : k ≠ 0) :
    MetFree l (⟨"com/example/portunus/portunus/Periods", "<init>", "(Lcom/example/portunus/portunus/RateLimiterConfig;)V"⟩ : MethodName) (head1 (Jvm.Cond.code (⟨"com/example/portunus/portunus/Periods", "<init>", "(Lcom/example/portunus/portunus/RateLimiterConfig;)V"⟩ : MethodName) prog_16_method_1_code 2 none :: ws) ({ frames := 1, cells := 0, slots := 0, locals := 24 } : Room)) (fun aa U => aa = #[(.ref o), (.ref q)] ∧ Z.Warmed39 U.vm ∧ U.heap = h0) (fun _ _ _ _ _ => True) (fun _ U ou U' => ∃ v L, ou = .returned v ∧ Q_rm_per Z o q k ms h0 n0 v U'.heap L ∧ FrameEnd U ou U' L ({ frames := 1, cells := 0, slots := 0, locals := 24 } : Room).cells ({ frames := 1, cells := 0, slots := 0, locals := 24 } : Room).slots) := by
  refine MetFree.of_bodySF (plainFor_of_name own_pn1) hisR ?_
  intro p e s m args below meth c s₁ Bd hml0 hP hK
  obtain ⟨rfl, hZ, hh⟩ := hP
  have hx := Bd.exec
  have hby := Bd.bytes
  have hml : c.maxLocals = 2 := hml0
  have hown : s.vm.findClass "com/example/portunus/portunus/Periods" = some m.cls := findClass_of_methodNamed Bd.named
  have hnm := (name_of_methodNamed Bd.named Bd.method).1
  have X0 : Stand p l e ({ frames := 1, cells := 0, slots := 0, locals := 24 } : Room) s m #[(.ref o), (.ref q)] below meth c s₁ [] 0 0 := Stand.of_body Bd
  have e0 : s₁.heap = h0 := by rw [← hh, Bd.state]; rfl
  have N0 := Fr.nil n0
  have K0 := Keep.refl h0 [o]
  show own_Go p e below (fun o u L => FrameEnd s o u L ({ frames := 1, cells := 0, slots := 0, locals := 24 } : Room).cells ({ frames := 1, cells := 0, slots := 0, locals := 24 } : Room).slots) (Q_rm_per Z o q k ms h0 n0) (s₁.setTop (entryFrame m #[(.ref o), (.ref q)] 2))
  rw [own_ef_rm_per m o q]
  show own_Go _ _ _ _ _ (State.setTop _ (mkF _ 0 #[.val (.ref o), .val (.ref q)] []))
  refine own_aloadN X0 hx 1 rfl (hb hby own_d5_0) rfl rfl ?_
  refine own_initO X0 hx hZ hown (own_hw hw 36 rfl) (own_hw hw 24 rfl) (own_hw hw 25 rfl) e0 (by rw [hml]; rfl) 4 rfl (hb hby own_d5_1) (by decide) 0 (Nat.le_of_eq rfl) (by decide) fun T131 X131 e131 => ?_
  refine own_aloadN X131 hx 5 rfl (hb hby own_d5_4) rfl rfl ?_
  refine own_aloadN X131 hx 6 rfl (hb hby own_d5_5) rfl rfl ?_
  refine own_virtual X131 hx hZ (y := (⟨"com/example/portunus/portunus/RateLimiterConfig", "getMaxRequests", "()I"⟩ : MethodName)) (z := (⟨"com/example/portunus/portunus/RateLimiterConfig", "getMaxRequests", "()I"⟩ : MethodName)) hown (own_hw hw 37 rfl) (own_hw hw 38 rfl) (own_hw hw 40 rfl) (own_hw hw 39 rfl) rfl (a := q) Ec (by decide) (rm_getmax l Z a0 hw [] q k h0 n0 Z0 Fk) (own_hw hw 41 rfl) (own_hw hw 16 rfl) (by decide) e131 (by rw [hml]; rfl) [] 1 (by decide) (Nat.le_of_eq rfl) (by decide) (by decide) (lenOf own_pd0 rfl) rfl rfl 9 rfl (hb hby own_d5_6) fun v132 T132 Lc132 X132 hQ132 => ?_
  obtain ⟨rfl, Nq132, e132⟩ := hQ132
  have N133 := Fr.app N0 Nq132
  show own_Go _ _ _ _ _ (State.setTop _ (mkF _ 9 _ [(.int k), (.ref o)]))
  refine own_putF X132 hx hZ (host := "") hown (Or.inl (own_hw hw 42 rfl)) Via.refl e132 F_maxRequests E1 (Or.inr ⟨(own_hw hw 43 rfl), rfl, hnm⟩) (own_hw hw 12 rfl) (ty := .int) (by decide) rfl rfl 12 rfl (hb hby own_d5_9) fun T134 h134 X134 e134 W134 => ?_
  have f135 := E1.wr W134
  have f136 := F_windowNanos.other W134 (Or.inr (slot_ne (Or.inr (own_hw hw 51 rfl)) (Or.inr (own_hw hw 43 rfl)) (by decide) (t := .long) (t' := .int) (by decide) (by decide)))
  have f137 := F_periodNanos.other W134 (Or.inr (slot_ne (Or.inr (own_hw hw 53 rfl)) (Or.inr (own_hw hw 43 rfl)) (by decide) (t := .long) (t' := .int) (by decide) (by decide)))
  have f138 := F_periodFraction.other W134 (Or.inr (slot_ne (Or.inr (own_hw hw 55 rfl)) (Or.inr (own_hw hw 43 rfl)) (by decide) (t := .long) (t' := .int) (by decide) (by decide)))
  have f139 := F_periodForGuesses.other W134 (Or.inr (slot_ne (Or.inr (own_hw hw 57 rfl)) (Or.inr (own_hw hw 43 rfl)) (by decide) (t := .double) (t' := .int) (by decide) (by decide)))
  have f140 := F_roomMarkNanos.other W134 (Or.inr (slot_ne (Or.inr (own_hw hw 59 rfl)) (Or.inr (own_hw hw 43 rfl)) (by decide) (t := .long) (t' := .int) (by decide) (by decide)))
  have f141 := F_roomMarkFraction.other W134 (Or.inr (slot_ne (Or.inr (own_hw hw 61 rfl)) (Or.inr (own_hw hw 43 rfl)) (by decide) (t := .long) (t' := .int) (by decide) (by decide)))
  have f142 := Ec.wr W134
  have f143 := Fk.other W134 (Or.inl hne)
  have f144 := Fm.other W134 (Or.inl hne)
  have z145 := Nat.le_trans Z0 (Keep.of_wr W134).1
  have K146 := K0.wr W134 (Or.inl (List.mem_of_getElem? (i := 0) rfl))
  have f147 := F_maxRequests.same W134
  have N148 := Fr.snoc X134 N133 g_o
  refine own_aloadN X134 hx 13 rfl (hb hby own_d5_12) rfl rfl ?_
  refine own_aloadN X134 hx 14 rfl (hb hby own_d5_13) rfl rfl ?_
  refine own_virtual X134 hx hZ (y := (⟨"com/example/portunus/portunus/RateLimiterConfig", "getTimeWindowNanos", "()J"⟩ : MethodName)) (z := (⟨"com/example/portunus/portunus/RateLimiterConfig", "getTimeWindowNanos", "()J"⟩ : MethodName)) hown (own_hw hw 44 rfl) (own_hw hw 45 rfl) (own_hw hw 47 rfl) (own_hw hw 46 rfl) rfl (a := q) f142 (by decide) (rm_getwin l Z a0 hw [] q ms h134 n0 z145 f144) (own_hw hw 48 rfl) (own_hw hw 16 rfl) (by decide) e134 (by rw [hml]; rfl) [] 1 (by decide) (Nat.le_of_eq rfl) (by decide) (by decide) (lenOf own_pd1 rfl) rfl rfl 17 rfl (hb hby own_d5_14) fun v149 T149 Lc149 X149 hQ149 => ?_
  obtain ⟨rfl, Nq149, e149⟩ := hQ149
  have N150 := Fr.app N148 Nq149
  show own_Go _ _ _ _ _ (State.setTop _ (mkF _ 17 _ [(.long (ms * (1000000 : Int64))), (.ref o)]))
  refine own_putF X149 hx hZ (host := "") hown (Or.inl (own_hw hw 50 rfl)) Via.refl e149 f136 f135 (Or.inr ⟨(own_hw hw 51 rfl), rfl, hnm⟩) (own_hw hw 12 rfl) (ty := .long) (by decide) rfl rfl 20 rfl (hb hby own_d5_17) fun T151 h151 X151 e151 W151 => ?_
  have f152 := f135.wr W151
  have f153 := f137.other W151 (Or.inr (slot_ne (Or.inr (own_hw hw 53 rfl)) (Or.inr (own_hw hw 51 rfl)) (by decide) (t := .long) (t' := .long) (by decide) (by decide)))
  have f154 := f138.other W151 (Or.inr (slot_ne (Or.inr (own_hw hw 55 rfl)) (Or.inr (own_hw hw 51 rfl)) (by decide) (t := .long) (t' := .long) (by decide) (by decide)))
  have f155 := f139.other W151 (Or.inr (slot_ne (Or.inr (own_hw hw 57 rfl)) (Or.inr (own_hw hw 51 rfl)) (by decide) (t := .double) (t' := .long) (by decide) (by decide)))
  have f156 := f140.other W151 (Or.inr (slot_ne (Or.inr (own_hw hw 59 rfl)) (Or.inr (own_hw hw 51 rfl)) (by decide) (t := .long) (t' := .long) (by decide) (by decide)))
  have f157 := f141.other W151 (Or.inr (slot_ne (Or.inr (own_hw hw 61 rfl)) (Or.inr (own_hw hw 51 rfl)) (by decide) (t := .long) (t' := .long) (by decide) (by decide)))
  have f158 := f142.wr W151
  have f159 := f143.other W151 (Or.inl hne)
  have f160 := f144.other W151 (Or.inl hne)
  have f161 := f147.other W151 (Or.inr (slot_ne (Or.inr (own_hw hw 43 rfl)) (Or.inr (own_hw hw 51 rfl)) (by decide) (t := .int) (t' := .long) (by decide) (by decide)))
  have z162 := Nat.le_trans z145 (Keep.of_wr W151).1
  have K163 := K146.wr W151 (Or.inl (List.mem_of_getElem? (i := 0) rfl))
  have f164 := f136.same W151
  have N165 := Fr.snoc X151 N150 g_o
  refine own_aloadN X151 hx 21 rfl (hb hby own_d5_20) rfl rfl ?_
  refine own_aloadN X151 hx 22 rfl (hb hby own_d5_21) rfl rfl ?_
  refine own_getF X151 hx hZ (host := "") hown (Or.inl (own_hw hw 50 rfl)) Via.refl e151 f164 25 rfl (hb hby own_d5_22) fun T166 X166 e166 => ?_
  refine own_aloadN X166 hx 26 rfl (hb hby own_d5_25) rfl rfl ?_
  refine own_getF X166 hx hZ (host := "") hown (Or.inl (own_hw hw 42 rfl)) Via.refl e166 f161 29 rfl (hb hby own_d5_26) fun T167 X167 e167 => ?_
  refine own_i2l X167 hx 30 rfl (hb hby own_d5_29) _ rfl ?_
  refine own_ldiv X167 hx 31 rfl (hb hby own_d5_30) hk _ rfl ?_
  refine own_putF X167 hx hZ (host := "") hown (Or.inl (own_hw hw 52 rfl)) Via.refl e167 f153 f152 (Or.inr ⟨(own_hw hw 53 rfl), rfl, hnm⟩) (own_hw hw 12 rfl) (ty := .long) (by decide) rfl rfl 34 rfl (hb hby own_d5_31) fun T168 h168 X168 e168 W168 => ?_
  have f169 := f152.wr W168
  have f170 := f154.other W168 (Or.inr (slot_ne (Or.inr (own_hw hw 55 rfl)) (Or.inr (own_hw hw 53 rfl)) (by decide) (t := .long) (t' := .long) (by decide) (by decide)))
  have f171 := f155.other W168 (Or.inr (slot_ne (Or.inr (own_hw hw 57 rfl)) (Or.inr (own_hw hw 53 rfl)) (by decide) (t := .double) (t' := .long) (by decide) (by decide)))
  have f172 := f156.other W168 (Or.inr (slot_ne (Or.inr (own_hw hw 59 rfl)) (Or.inr (own_hw hw 53 rfl)) (by decide) (t := .long) (t' := .long) (by decide) (by decide)))
  have f173 := f157.other W168 (Or.inr (slot_ne (Or.inr (own_hw hw 61 rfl)) (Or.inr (own_hw hw 53 rfl)) (by decide) (t := .long) (t' := .long) (by decide) (by decide)))
  have f174 := f161.other W168 (Or.inr (slot_ne (Or.inr (own_hw hw 43 rfl)) (Or.inr (own_hw hw 53 rfl)) (by decide) (t := .int) (t' := .long) (by decide) (by decide)))
  have f175 := f164.other W168 (Or.inr (slot_ne (Or.inr (own_hw hw 51 rfl)) (Or.inr (own_hw hw 53 rfl)) (by decide) (t := .long) (t' := .long) (by decide) (by decide)))
  have z176 := Nat.le_trans z162 (Keep.of_wr W168).1
  have K177 := K163.wr W168 (Or.inl (List.mem_of_getElem? (i := 0) rfl))
  have f178 := f153.same W168
  have N179 := Fr.snoc X168 N165 g_o
  refine own_aloadN X168 hx 35 rfl (hb hby own_d5_34) rfl rfl ?_
  refine own_aloadN X168 hx 36 rfl (hb hby own_d5_35) rfl rfl ?_
  refine own_getF X168 hx hZ (host := "") hown (Or.inl (own_hw hw 50 rfl)) Via.refl e168 f175 39 rfl (hb hby own_d5_36) fun T180 X180 e180 => ?_
  refine own_aloadN X180 hx 40 rfl (hb hby own_d5_39) rfl rfl ?_
  refine own_getF X180 hx hZ (host := "") hown (Or.inl (own_hw hw 42 rfl)) Via.refl e180 f174 43 rfl (hb hby own_d5_40) fun T181 X181 e181 => ?_
  refine own_i2l X181 hx 44 rfl (hb hby own_d5_43) _ rfl ?_
  refine own_lrem X181 hx 45 rfl (hb hby own_d5_44) hk _ rfl ?_
  refine own_putF X181 hx hZ (host := "") hown (Or.inl (own_hw hw 54 rfl)) Via.refl e181 f170 f169 (Or.inr ⟨(own_hw hw 55 rfl), rfl, hnm⟩) (own_hw hw 12 rfl) (ty := .long) (by decide) rfl rfl 48 rfl (hb hby own_d5_45) fun T182 h182 X182 e182 W182 => ?_
  have f183 := f169.wr W182
  have f184 := f171.other W182 (Or.inr (slot_ne (Or.inr (own_hw hw 57 rfl)) (Or.inr (own_hw hw 55 rfl)) (by decide) (t := .double) (t' := .long) (by decide) (by decide)))
  have f185 := f172.other W182 (Or.inr (slot_ne (Or.inr (own_hw hw 59 rfl)) (Or.inr (own_hw hw 55 rfl)) (by decide) (t := .long) (t' := .long) (by decide) (by decide)))
  have f186 := f173.other W182 (Or.inr (slot_ne (Or.inr (own_hw hw 61 rfl)) (Or.inr (own_hw hw 55 rfl)) (by decide) (t := .long) (t' := .long) (by decide) (by decide)))
  have f187 := f174.other W182 (Or.inr (slot_ne (Or.inr (own_hw hw 43 rfl)) (Or.inr (own_hw hw 55 rfl)) (by decide) (t := .int) (t' := .long) (by decide) (by decide)))
  have f188 := f175.other W182 (Or.inr (slot_ne (Or.inr (own_hw hw 51 rfl)) (Or.inr (own_hw hw 55 rfl)) (by decide) (t := .long) (t' := .long) (by decide) (by decide)))
  have f189 := f178.other W182 (Or.inr (slot_ne (Or.inr (own_hw hw 53 rfl)) (Or.inr (own_hw hw 55 rfl)) (by decide) (t := .long) (t' := .long) (by decide) (by decide)))
  have z190 := Nat.le_trans z176 (Keep.of_wr W182).1
  have K191 := K177.wr W182 (Or.inl (List.mem_of_getElem? (i := 0) rfl))
  have f192 := f170.same W182
  have N193 := Fr.snoc X182 N179 g_o
  refine own_aloadN X182 hx 49 rfl (hb hby own_d5_48) rfl rfl ?_
  refine own_aloadN X182 hx 50 rfl (hb hby own_d5_49) rfl rfl ?_
  refine own_getF X182 hx hZ (host := "") hown (Or.inl (own_hw hw 50 rfl)) Via.refl e182 f188 53 rfl (hb hby own_d5_50) fun T194 X194 e194 => ?_
  refine own_l2d X194 hx 54 rfl (hb hby own_d5_53) _ rfl ?_
  refine own_aloadN X194 hx 55 rfl (hb hby own_d5_54) rfl rfl ?_
  refine own_getF X194 hx hZ (host := "") hown (Or.inl (own_hw hw 42 rfl)) Via.refl e194 f187 58 rfl (hb hby own_d5_55) fun T195 X195 e195 => ?_
  refine own_i2d X195 hx 59 rfl (hb hby own_d5_58) _ rfl ?_
  refine own_ddiv X195 hx 60 rfl (hb hby own_d5_59) (ddiv_out (l2d_fin (ms * (1000000 : Int64))).noNaN (i2d_fin k) (i2d_nz hk0)) _ rfl ?_
  refine own_putF X195 hx hZ (host := "") hown (Or.inl (own_hw hw 56 rfl)) Via.refl e195 f184 f183 (Or.inr ⟨(own_hw hw 57 rfl), rfl, hnm⟩) (own_hw hw 12 rfl) (ty := .double) (by decide) rfl rfl 63 rfl (hb hby own_d5_60) fun T196 h196 X196 e196 W196 => ?_
  have f197 := f183.wr W196
  have f198 := f185.other W196 (Or.inr (slot_ne (Or.inr (own_hw hw 59 rfl)) (Or.inr (own_hw hw 57 rfl)) (by decide) (t := .long) (t' := .double) (by decide) (by decide)))
  have f199 := f186.other W196 (Or.inr (slot_ne (Or.inr (own_hw hw 61 rfl)) (Or.inr (own_hw hw 57 rfl)) (by decide) (t := .long) (t' := .double) (by decide) (by decide)))
  have f200 := f187.other W196 (Or.inr (slot_ne (Or.inr (own_hw hw 43 rfl)) (Or.inr (own_hw hw 57 rfl)) (by decide) (t := .int) (t' := .double) (by decide) (by decide)))
  have f201 := f188.other W196 (Or.inr (slot_ne (Or.inr (own_hw hw 51 rfl)) (Or.inr (own_hw hw 57 rfl)) (by decide) (t := .long) (t' := .double) (by decide) (by decide)))
  have f202 := f189.other W196 (Or.inr (slot_ne (Or.inr (own_hw hw 53 rfl)) (Or.inr (own_hw hw 57 rfl)) (by decide) (t := .long) (t' := .double) (by decide) (by decide)))
  have f203 := f192.other W196 (Or.inr (slot_ne (Or.inr (own_hw hw 55 rfl)) (Or.inr (own_hw hw 57 rfl)) (by decide) (t := .long) (t' := .double) (by decide) (by decide)))
  have z204 := Nat.le_trans z190 (Keep.of_wr W196).1
  have K205 := K191.wr W196 (Or.inl (List.mem_of_getElem? (i := 0) rfl))
  have f206 := f184.same W196
  have N207 := Fr.snoc X196 N193 g_o
  refine own_aloadN X196 hx 64 rfl (hb hby own_d5_63) rfl rfl ?_
  refine own_getF X196 hx hZ (host := "") hown (Or.inl (own_hw hw 54 rfl)) Via.refl e196 f203 67 rfl (hb hby own_d5_64) fun T208 X208 e208 => ?_
  refine own_lconst X208 hx 68 rfl (hb hby own_d5_67) (0 : Int64) rfl ?_
  refine own_lcmp X208 hx 69 rfl (hb hby own_d5_68) _ rfl ?_
  by_cases hc209 : ((ms * (1000000 : Int64)) % k.toInt64) = (0 : Int64)
  ·
    refine own_ifNo X208 hx 72 rfl (hb hby own_d5_69) ((if0 _ _).trans (teq ((lw_eq _ _).mpr hc209)).2) ?_
    refine own_aloadN X208 hx 73 rfl (hb hby own_d5_72) rfl rfl ?_
    refine own_aloadN X208 hx 74 rfl (hb hby own_d5_73) rfl rfl ?_
    refine own_getF X208 hx hZ (host := "") hown (Or.inl (own_hw hw 50 rfl)) Via.refl e208 f201 77 rfl (hb hby own_d5_74) fun T210 X210 e210 => ?_
    refine own_aloadN X210 hx 78 rfl (hb hby own_d5_77) rfl rfl ?_
    refine own_getF X210 hx hZ (host := "") hown (Or.inl (own_hw hw 52 rfl)) Via.refl e210 f202 81 rfl (hb hby own_d5_78) fun T211 X211 e211 => ?_
    refine own_lsub X211 hx 82 rfl (hb hby own_d5_81) _ rfl ?_
    refine own_putF X211 hx hZ (host := "") hown (Or.inl (own_hw hw 58 rfl)) Via.refl e211 f198 f197 (Or.inr ⟨(own_hw hw 59 rfl), rfl, hnm⟩) (own_hw hw 12 rfl) (ty := .long) (by decide) rfl rfl 85 rfl (hb hby own_d5_82) fun T212 h212 X212 e212 W212 => ?_
    have f213 := f197.wr W212
    have f214 := f199.other W212 (Or.inr (slot_ne (Or.inr (own_hw hw 61 rfl)) (Or.inr (own_hw hw 59 rfl)) (by decide) (t := .long) (t' := .long) (by decide) (by decide)))
    have f215 := f200.other W212 (Or.inr (slot_ne (Or.inr (own_hw hw 43 rfl)) (Or.inr (own_hw hw 59 rfl)) (by decide) (t := .int) (t' := .long) (by decide) (by decide)))
    have f216 := f201.other W212 (Or.inr (slot_ne (Or.inr (own_hw hw 51 rfl)) (Or.inr (own_hw hw 59 rfl)) (by decide) (t := .long) (t' := .long) (by decide) (by decide)))
    have f217 := f202.other W212 (Or.inr (slot_ne (Or.inr (own_hw hw 53 rfl)) (Or.inr (own_hw hw 59 rfl)) (by decide) (t := .long) (t' := .long) (by decide) (by decide)))
    have f218 := f203.other W212 (Or.inr (slot_ne (Or.inr (own_hw hw 55 rfl)) (Or.inr (own_hw hw 59 rfl)) (by decide) (t := .long) (t' := .long) (by decide) (by decide)))
    have f219 := f206.other W212 (Or.inr (slot_ne (Or.inr (own_hw hw 57 rfl)) (Or.inr (own_hw hw 59 rfl)) (by decide) (t := .double) (t' := .long) (by decide) (by decide)))
    have z220 := Nat.le_trans z204 (Keep.of_wr W212).1
    have K221 := K205.wr W212 (Or.inl (List.mem_of_getElem? (i := 0) rfl))
    have f222 := f198.same W212
    have N223 := Fr.snoc X212 N207 g_o
    refine own_aloadN X212 hx 86 rfl (hb hby own_d5_85) rfl rfl ?_
    refine own_lconst X212 hx 87 rfl (hb hby own_d5_86) (0 : Int64) rfl ?_
    refine own_putF X212 hx hZ (host := "") hown (Or.inl (own_hw hw 60 rfl)) Via.refl e212 f214 f213 (Or.inr ⟨(own_hw hw 61 rfl), rfl, hnm⟩) (own_hw hw 12 rfl) (ty := .long) (by decide) rfl rfl 90 rfl (hb hby own_d5_87) fun T224 h224 X224 e224 W224 => ?_
    have f225 := f213.wr W224
    have f226 := f215.other W224 (Or.inr (slot_ne (Or.inr (own_hw hw 43 rfl)) (Or.inr (own_hw hw 61 rfl)) (by decide) (t := .int) (t' := .long) (by decide) (by decide)))
    have f227 := f216.other W224 (Or.inr (slot_ne (Or.inr (own_hw hw 51 rfl)) (Or.inr (own_hw hw 61 rfl)) (by decide) (t := .long) (t' := .long) (by decide) (by decide)))
    have f228 := f217.other W224 (Or.inr (slot_ne (Or.inr (own_hw hw 53 rfl)) (Or.inr (own_hw hw 61 rfl)) (by decide) (t := .long) (t' := .long) (by decide) (by decide)))
    have f229 := f218.other W224 (Or.inr (slot_ne (Or.inr (own_hw hw 55 rfl)) (Or.inr (own_hw hw 61 rfl)) (by decide) (t := .long) (t' := .long) (by decide) (by decide)))
    have f230 := f219.other W224 (Or.inr (slot_ne (Or.inr (own_hw hw 57 rfl)) (Or.inr (own_hw hw 61 rfl)) (by decide) (t := .double) (t' := .long) (by decide) (by decide)))
    have f231 := f222.other W224 (Or.inr (slot_ne (Or.inr (own_hw hw 59 rfl)) (Or.inr (own_hw hw 61 rfl)) (by decide) (t := .long) (t' := .long) (by decide) (by decide)))
    have z232 := Nat.le_trans z220 (Keep.of_wr W224).1
    have K233 := K221.wr W224 (Or.inl (List.mem_of_getElem? (i := 0) rfl))
    have f234 := f214.same W224
    have N235 := Fr.snoc X224 N223 g_o
    refine own_goto X224 hx 122 (hb hby own_d5_90) (by decide) rfl ?_
    refine own_ret X224 none (fun _ => rfl) Bd.notSynchronized (by decide) (by decide) ?_ (fun fs hr => X224.returnOut hx Bd.returns (hb hby own_d5_122) hr)
    show Q_rm_per Z o q k ms h0 n0 _ T224.heap _
    rw [e224]
    exact ⟨rfl, N235, K233, f225, f226, f228, f229⟩
  ·
    refine own_ifYes X208 hx 93 (hb hby own_d5_69) ((if0 _ _).trans (feq (fun z => hc209 ((lw_eq _ _).mp z))).2) (by decide) rfl ?_
    refine own_aloadN X208 hx 94 rfl (hb hby own_d5_93) rfl rfl ?_
    refine own_aloadN X208 hx 95 rfl (hb hby own_d5_94) rfl rfl ?_
    refine own_getF X208 hx hZ (host := "") hown (Or.inl (own_hw hw 50 rfl)) Via.refl e208 f201 98 rfl (hb hby own_d5_95) fun T236 X236 e236 => ?_
    refine own_aloadN X236 hx 99 rfl (hb hby own_d5_98) rfl rfl ?_
    refine own_getF X236 hx hZ (host := "") hown (Or.inl (own_hw hw 52 rfl)) Via.refl e236 f202 102 rfl (hb hby own_d5_99) fun T237 X237 e237 => ?_
    refine own_lsub X237 hx 103 rfl (hb hby own_d5_102) _ rfl ?_
    refine own_lconst X237 hx 104 rfl (hb hby own_d5_103) (1 : Int64) rfl ?_
    refine own_lsub X237 hx 105 rfl (hb hby own_d5_104) _ rfl ?_
    refine own_putF X237 hx hZ (host := "") hown (Or.inl (own_hw hw 58 rfl)) Via.refl e237 f198 f197 (Or.inr ⟨(own_hw hw 59 rfl), rfl, hnm⟩) (own_hw hw 12 rfl) (ty := .long) (by decide) rfl rfl 108 rfl (hb hby own_d5_105) fun T238 h238 X238 e238 W238 => ?_
    have f239 := f197.wr W238
    have f240 := f199.other W238 (Or.inr (slot_ne (Or.inr (own_hw hw 61 rfl)) (Or.inr (own_hw hw 59 rfl)) (by decide) (t := .long) (t' := .long) (by decide) (by decide)))
    have f241 := f200.other W238 (Or.inr (slot_ne (Or.inr (own_hw hw 43 rfl)) (Or.inr (own_hw hw 59 rfl)) (by decide) (t := .int) (t' := .long) (by decide) (by decide)))
    have f242 := f201.other W238 (Or.inr (slot_ne (Or.inr (own_hw hw 51 rfl)) (Or.inr (own_hw hw 59 rfl)) (by decide) (t := .long) (t' := .long) (by decide) (by decide)))
    have f243 := f202.other W238 (Or.inr (slot_ne (Or.inr (own_hw hw 53 rfl)) (Or.inr (own_hw hw 59 rfl)) (by decide) (t := .long) (t' := .long) (by decide) (by decide)))
    have f244 := f203.other W238 (Or.inr (slot_ne (Or.inr (own_hw hw 55 rfl)) (Or.inr (own_hw hw 59 rfl)) (by decide) (t := .long) (t' := .long) (by decide) (by decide)))
    have f245 := f206.other W238 (Or.inr (slot_ne (Or.inr (own_hw hw 57 rfl)) (Or.inr (own_hw hw 59 rfl)) (by decide) (t := .double) (t' := .long) (by decide) (by decide)))
    have z246 := Nat.le_trans z204 (Keep.of_wr W238).1
    have K247 := K205.wr W238 (Or.inl (List.mem_of_getElem? (i := 0) rfl))
    have f248 := f198.same W238
    have N249 := Fr.snoc X238 N207 g_o
    refine own_aloadN X238 hx 109 rfl (hb hby own_d5_108) rfl rfl ?_
    refine own_aloadN X238 hx 110 rfl (hb hby own_d5_109) rfl rfl ?_
    refine own_getF X238 hx hZ (host := "") hown (Or.inl (own_hw hw 42 rfl)) Via.refl e238 f241 113 rfl (hb hby own_d5_110) fun T250 X250 e250 => ?_
    refine own_i2l X250 hx 114 rfl (hb hby own_d5_113) _ rfl ?_
    refine own_aloadN X250 hx 115 rfl (hb hby own_d5_114) rfl rfl ?_
    refine own_getF X250 hx hZ (host := "") hown (Or.inl (own_hw hw 54 rfl)) Via.refl e250 f244 118 rfl (hb hby own_d5_115) fun T251 X251 e251 => ?_
    refine own_lsub X251 hx 119 rfl (hb hby own_d5_118) _ rfl ?_
    refine own_putF X251 hx hZ (host := "") hown (Or.inl (own_hw hw 60 rfl)) Via.refl e251 f240 f239 (Or.inr ⟨(own_hw hw 61 rfl), rfl, hnm⟩) (own_hw hw 12 rfl) (ty := .long) (by decide) rfl rfl 122 rfl (hb hby own_d5_119) fun T252 h252 X252 e252 W252 => ?_
    have f253 := f239.wr W252
    have f254 := f241.other W252 (Or.inr (slot_ne (Or.inr (own_hw hw 43 rfl)) (Or.inr (own_hw hw 61 rfl)) (by decide) (t := .int) (t' := .long) (by decide) (by decide)))
    have f255 := f242.other W252 (Or.inr (slot_ne (Or.inr (own_hw hw 51 rfl)) (Or.inr (own_hw hw 61 rfl)) (by decide) (t := .long) (t' := .long) (by decide) (by decide)))
    have f256 := f243.other W252 (Or.inr (slot_ne (Or.inr (own_hw hw 53 rfl)) (Or.inr (own_hw hw 61 rfl)) (by decide) (t := .long) (t' := .long) (by decide) (by decide)))
    have f257 := f244.other W252 (Or.inr (slot_ne (Or.inr (own_hw hw 55 rfl)) (Or.inr (own_hw hw 61 rfl)) (by decide) (t := .long) (t' := .long) (by decide) (by decide)))
    have f258 := f245.other W252 (Or.inr (slot_ne (Or.inr (own_hw hw 57 rfl)) (Or.inr (own_hw hw 61 rfl)) (by decide) (t := .double) (t' := .long) (by decide) (by decide)))
    have f259 := f248.other W252 (Or.inr (slot_ne (Or.inr (own_hw hw 59 rfl)) (Or.inr (own_hw hw 61 rfl)) (by decide) (t := .long) (t' := .long) (by decide) (by decide)))
    have z260 := Nat.le_trans z246 (Keep.of_wr W252).1
    have K261 := K247.wr W252 (Or.inl (List.mem_of_getElem? (i := 0) rfl))
    have f262 := f240.same W252
    have N263 := Fr.snoc X252 N249 g_o
    refine own_ret X252 none (fun _ => rfl) Bd.notSynchronized (by decide) (by decide) ?_ (fun fs hr => X252.returnOut hx Bd.returns (hb hby own_d5_122) hr)
    show Q_rm_per Z o q k ms h0 n0 _ T252.heap _
    rw [e252]
    exact ⟨rfl, N263, K261, f253, f254, f256, f257⟩
theorem own_pn2 : plainName "com/example/portunus/portunus/Periods$Debt" = true := by first | (simp [plainName, overriddenIn]; done) | decide +kernel
theorem own_ef_rm_debt (m : MethodId) (o : Addr) (t : Int64) : entryFrame m #[(.ref o), (.long t)] 3 = mkF m 0 #[.val (.ref o), .val (.long t), .second] [] := by first | (simp [entryFrame, mkF, argsToLocals, Value.category]; done) | rfl
def Q_rm_debt (Z : State) (o : Addr) (t : Int64) (h0 : Heap) (n0 : Nat) (v : Option Value) (h : Heap) (L : List Loc) : Prop := v = none ∧ Fr n0 L ∧ Keep h0 h [o] ∧ Exa Z h o "com/example/portunus/portunus/Periods$Debt" ∧ Fld Z h o "com/example/portunus/portunus/Periods$Debt" "time" "J" (.long t) ∧ Fld Z h o "com/example/portunus/portunus/Periods$Debt" "nanos" "J" (.long (0 : Int64)) ∧ Fld Z h o "com/example/portunus/portunus/Periods$Debt" "fraction" "I" (.int (0 : Int32))
theorem own_d8_0 : decode prog_17_method_1_code 0 = .ok (.aload_n 0, 1) := by decide +kernel
theorem own_d8_1 : decode prog_17_method_1_code 1 = .ok (.invokespecial 1, 3) := by decide +kernel
theorem own_d8_4 : decode prog_17_method_1_code 4 = .ok (.aload_n 0, 1) := by decide +kernel
theorem own_d8_5 : decode prog_17_method_1_code 5 = .ok (.lload_n 1, 1) := by decide +kernel
theorem own_d8_6 : decode prog_17_method_1_code 6 = .ok (.putfield 7, 3) := by decide +kernel
theorem own_d8_9 : decode prog_17_method_1_code 9 = .ok (.return_, 1) := by decide +kernel
set_option maxRecDepth 65536 in
set_option maxHeartbeats 40000000 in
theorem rm_debt (l : Launch) (Z : State) (a0 : Array Value) (hw : ∀ d ∈ tables_1, d.before a0 Z = true) (ws : List Jvm.Cond) (o : Addr) (t : Int64) (h0 : Heap) (n0 : Nat) (Z0 : n0 ≤ h0.size) (E1 : Exa Z h0 o "com/example/portunus/portunus/Periods$Debt") (F_time : Fld Z h0 o "com/example/portunus/portunus/Periods$Debt" "time" "J" (.long (0 : Int64))) (F_nanos : Fld Z h0 o "com/example/portunus/portunus/Periods$Debt" "nanos" "J" (.long (0 : Int64))) (F_fraction : Fld Z h0 o "com/example/portunus/portunus/Periods$Debt" "fraction" "I" (.int (0 : Int32))) (g_o : n0 ≤ o) :
    MetFree l (⟨"com/example/portunus/portunus/Periods$Debt", "<init>", "(J)V"⟩ : MethodName) (head1 (Jvm.Cond.code (⟨"com/example/portunus/portunus/Periods$Debt", "<init>", "(J)V"⟩ : MethodName) prog_17_method_1_code 3 none :: ws) ({ frames := 1, cells := 0, slots := 0, locals := 12 } : Room)) (fun aa U => aa = #[(.ref o), (.long t)] ∧ Z.Warmed39 U.vm ∧ U.heap = h0) (fun _ _ _ _ _ => True) (fun _ U ou U' => ∃ v L, ou = .returned v ∧ Q_rm_debt Z o t h0 n0 v U'.heap L ∧ FrameEnd U ou U' L ({ frames := 1, cells := 0, slots := 0, locals := 12 } : Room).cells ({ frames := 1, cells := 0, slots := 0, locals := 12 } : Room).slots) := by
  refine MetFree.of_bodySF (plainFor_of_name own_pn2) hisR ?_
  intro p e s m args below meth c s₁ Bd hml0 hP hK
  obtain ⟨rfl, hZ, hh⟩ := hP
  have hx := Bd.exec
  have hby := Bd.bytes
  have hml : c.maxLocals = 3 := hml0
  have hown : s.vm.findClass "com/example/portunus/portunus/Periods$Debt" = some m.cls := findClass_of_methodNamed Bd.named
  have hnm := (name_of_methodNamed Bd.named Bd.method).1
  have X0 : Stand p l e ({ frames := 1, cells := 0, slots := 0, locals := 12 } : Room) s m #[(.ref o), (.long t)] below meth c s₁ [] 0 0 := Stand.of_body Bd
  have e0 : s₁.heap = h0 := by rw [← hh, Bd.state]; rfl
  have N0 := Fr.nil n0
  have K0 := Keep.refl h0 [o]
  show own_Go p e below (fun o u L => FrameEnd s o u L ({ frames := 1, cells := 0, slots := 0, locals := 12 } : Room).cells ({ frames := 1, cells := 0, slots := 0, locals := 12 } : Room).slots) (Q_rm_debt Z o t h0 n0) (s₁.setTop (entryFrame m #[(.ref o), (.long t)] 3))
  rw [own_ef_rm_debt m o t]
  show own_Go _ _ _ _ _ (State.setTop _ (mkF _ 0 #[.val (.ref o), .val (.long t), .second] []))
  refine own_aloadN X0 hx 1 rfl (hb hby own_d8_0) rfl rfl ?_
  refine own_initO X0 hx hZ hown (own_hw hw 68 rfl) (own_hw hw 24 rfl) (own_hw hw 25 rfl) e0 (by rw [hml]; rfl) 4 rfl (hb hby own_d8_1) (by decide) 0 (Nat.le_of_eq rfl) (by decide) fun T264 X264 e264 => ?_
  refine own_aloadN X264 hx 5 rfl (hb hby own_d8_4) rfl rfl ?_
  refine own_lloadN X264 hx 6 rfl (hb hby own_d8_5) rfl ?_
  refine own_putF X264 hx hZ (host := "") hown (Or.inl (own_hw hw 69 rfl)) Via.refl e264 F_time E1 (Or.inl (own_hw hw 70 rfl)) (own_hw hw 63 rfl) (ty := .long) (by decide) rfl rfl 9 rfl (hb hby own_d8_6) fun T265 h265 X265 e265 W265 => ?_
  have f266 := E1.wr W265
  have f267 := F_nanos.other W265 (Or.inr (slot_ne (Or.inl (own_hw hw 77 rfl)) (Or.inl (own_hw hw 70 rfl)) (by decide) (t := .long) (t' := .long) (by decide) (by decide)))
  have f268 := F_fraction.other W265 (Or.inr (slot_ne (Or.inl (own_hw hw 87 rfl)) (Or.inl (own_hw hw 70 rfl)) (by decide) (t := .int) (t' := .long) (by decide) (by decide)))
  have z269 := Nat.le_trans Z0 (Keep.of_wr W265).1
  have K270 := K0.wr W265 (Or.inl (List.mem_of_getElem? (i := 0) rfl))
  have f271 := F_time.same W265
  have N272 := Fr.snoc X265 N0 g_o
  refine own_ret X265 none (fun _ => rfl) Bd.notSynchronized (by decide) (by decide) ?_ (fun fs hr => X265.returnOut hx Bd.returns (hb hby own_d8_9) hr)
  show Q_rm_debt Z o t h0 n0 _ T265.heap _
  rw [e265]
  exact ⟨rfl, N272, K270, f266, f271, f267, f268⟩
theorem own_ef_rm_addp (m : MethodId) (o : Addr) (b : Addr) : entryFrame m #[(.ref o), (.ref b)] 4 = mkF m 0 #[.val (.ref o), .val (.ref b), .unset, .unset] [] := by first | (simp [entryFrame, mkF, argsToLocals, Value.category]; done) | rfl
def Q_rm_addp (Z : State) (o : Addr) (b : Addr) (k : Int32) (q : Int64) (r : Int64) (t : Int64) (a : Int64) (f : Int32) (h0 : Heap) (n0 : Nat) (v : Option Value) (h : Heap) (L : List Loc) : Prop := v = none ∧ Fr n0 L ∧ Keep h0 h [b] ∧ Exa Z h b "com/example/portunus/portunus/Periods$Debt" ∧ Fld Z h b "com/example/portunus/portunus/Periods$Debt" "time" "J" (.long t) ∧ Fld Z h b "com/example/portunus/portunus/Periods$Debt" "nanos" "J" (.long (a + (q + (f.toInt64 + r) / k.toInt64))) ∧ Fld Z h b "com/example/portunus/portunus/Periods$Debt" "fraction" "I" (.int (((f.toInt64 + r) % k.toInt64).toInt32))
theorem own_d14_0 : decode prog_16_method_3_code 0 = .ok (.aload_n 1, 1) := by decide +kernel
theorem own_d14_1 : decode prog_16_method_3_code 1 = .ok (.getfield 48, 3) := by decide +kernel
theorem own_d14_4 : decode prog_16_method_3_code 4 = .ok (.i2l, 1) := by decide +kernel
theorem own_d14_5 : decode prog_16_method_3_code 5 = .ok (.aload_n 0, 1) := by decide +kernel
theorem own_d14_6 : decode prog_16_method_3_code 6 = .ok (.getfield 30, 3) := by decide +kernel
theorem own_d14_9 : decode prog_16_method_3_code 9 = .ok (.ladd, 1) := by decide +kernel
theorem own_d14_10 : decode prog_16_method_3_code 10 = .ok (.lstore_n 2, 1) := by decide +kernel
theorem own_d14_11 : decode prog_16_method_3_code 11 = .ok (.aload_n 1, 1) := by decide +kernel
theorem own_d14_12 : decode prog_16_method_3_code 12 = .ok (.dup, 1) := by decide +kernel
theorem own_d14_13 : decode prog_16_method_3_code 13 = .ok (.getfield 43, 3) := by decide +kernel
theorem own_d14_16 : decode prog_16_method_3_code 16 = .ok (.aload_n 0, 1) := by decide +kernel
theorem own_d14_17 : decode prog_16_method_3_code 17 = .ok (.getfield 27, 3) := by decide +kernel
theorem own_d14_20 : decode prog_16_method_3_code 20 = .ok (.lload_n 2, 1) := by decide +kernel
theorem own_d14_21 : decode prog_16_method_3_code 21 = .ok (.aload_n 0, 1) := by decide +kernel
theorem own_d14_22 : decode prog_16_method_3_code 22 = .ok (.getfield 13, 3) := by decide +kernel
theorem own_d14_25 : decode prog_16_method_3_code 25 = .ok (.i2l, 1) := by decide +kernel
theorem own_d14_26 : decode prog_16_method_3_code 26 = .ok (.ldiv, 1) := by decide +kernel
theorem own_d14_27 : decode prog_16_method_3_code 27 = .ok (.ladd, 1) := by decide +kernel
theorem own_d14_28 : decode prog_16_method_3_code 28 = .ok (.ladd, 1) := by decide +kernel
theorem own_d14_29 : decode prog_16_method_3_code 29 = .ok (.putfield 43, 3) := by decide +kernel
theorem own_d14_32 : decode prog_16_method_3_code 32 = .ok (.aload_n 1, 1) := by decide +kernel
theorem own_d14_33 : decode prog_16_method_3_code 33 = .ok (.lload_n 2, 1) := by decide +kernel
theorem own_d14_34 : decode prog_16_method_3_code 34 = .ok (.aload_n 0, 1) := by decide +kernel
theorem own_d14_35 : decode prog_16_method_3_code 35 = .ok (.getfield 13, 3) := by decide +kernel
theorem own_d14_38 : decode prog_16_method_3_code 38 = .ok (.i2l, 1) := by decide +kernel
theorem own_d14_39 : decode prog_16_method_3_code 39 = .ok (.lrem, 1) := by decide +kernel
theorem own_d14_40 : decode prog_16_method_3_code 40 = .ok (.l2i, 1) := by decide +kernel
theorem own_d14_41 : decode prog_16_method_3_code 41 = .ok (.putfield 48, 3) := by decide +kernel
theorem own_d14_44 : decode prog_16_method_3_code 44 = .ok (.return_, 1) := by decide +kernel
set_option maxRecDepth 65536 in
set_option maxHeartbeats 40000000 in
theorem rm_addp (l : Launch) (Z : State) (a0 : Array Value) (hw : ∀ d ∈ tables_1, d.before a0 Z = true) (ws : List Jvm.Cond) (o : Addr) (b : Addr) (k : Int32) (q : Int64) (r : Int64) (t : Int64) (a : Int64) (f : Int32) (h0 : Heap) (n0 : Nat) (Z0 : n0 ≤ h0.size) (Fk : Fld Z h0 o "com/example/portunus/portunus/Periods" "maxRequests" "I" (.int k)) (Fq : Fld Z h0 o "com/example/portunus/portunus/Periods" "periodNanos" "J" (.long q)) (Fr' : Fld Z h0 o "com/example/portunus/portunus/Periods" "periodFraction" "J" (.long r)) (D0 : Exa Z h0 b "com/example/portunus/portunus/Periods$Debt") (D1 : Fld Z h0 b "com/example/portunus/portunus/Periods$Debt" "time" "J" (.long t)) (D2 : Fld Z h0 b "com/example/portunus/portunus/Periods$Debt" "nanos" "J" (.long a)) (D3 : Fld Z h0 b "com/example/portunus/portunus/Periods$Debt" "fraction" "I" (.int f)) (hne : o ≠ b) (g_b : n0 ≤ b) (hk : ¬ k.toInt64 = 0) :
    MetFree l (⟨"com/example/portunus/portunus/Periods", "addPeriod", "(Lcom/example/portunus/portunus/Periods$Debt;)V"⟩ : MethodName) (head1 (Jvm.Cond.code (⟨"com/example/portunus/portunus/Periods", "addPeriod", "(Lcom/example/portunus/portunus/Periods$Debt;)V"⟩ : MethodName) prog_16_method_3_code 4 none :: ws) ({ frames := 0, cells := 0, slots := 0, locals := 0 } : Room)) (fun aa U => aa = #[(.ref o), (.ref b)] ∧ Z.Warmed39 U.vm ∧ U.heap = h0) (fun _ _ _ _ _ => True) (fun _ U ou U' => ∃ v L, ou = .returned v ∧ Q_rm_addp Z o b k q r t a f h0 n0 v U'.heap L ∧ FrameEnd U ou U' L ({ frames := 0, cells := 0, slots := 0, locals := 0 } : Room).cells ({ frames := 0, cells := 0, slots := 0, locals := 0 } : Room).slots) := by
  refine MetFree.of_bodySF (plainFor_of_name own_pn1) hisR ?_
  intro p e s m args below meth c s₁ Bd hml0 hP hK
  obtain ⟨rfl, hZ, hh⟩ := hP
  have hx := Bd.exec
  have hby := Bd.bytes
  have hml : c.maxLocals = 4 := hml0
  have hown : s.vm.findClass "com/example/portunus/portunus/Periods" = some m.cls := findClass_of_methodNamed Bd.named
  have hnm := (name_of_methodNamed Bd.named Bd.method).1
  have X0 : Stand p l e ({ frames := 0, cells := 0, slots := 0, locals := 0 } : Room) s m #[(.ref o), (.ref b)] below meth c s₁ [] 0 0 := Stand.of_body Bd
  have e0 : s₁.heap = h0 := by rw [← hh, Bd.state]; rfl
  have N0 := Fr.nil n0
  have K0 := Keep.refl h0 [b]
  show own_Go p e below (fun o u L => FrameEnd s o u L ({ frames := 0, cells := 0, slots := 0, locals := 0 } : Room).cells ({ frames := 0, cells := 0, slots := 0, locals := 0 } : Room).slots) (Q_rm_addp Z o b k q r t a f h0 n0) (s₁.setTop (entryFrame m #[(.ref o), (.ref b)] 4))
  rw [own_ef_rm_addp m o b]
  show own_Go _ _ _ _ _ (State.setTop _ (mkF _ 0 #[.val (.ref o), .val (.ref b), .unset, .unset] []))
  refine own_aloadN X0 hx 1 rfl (hb hby own_d14_0) rfl rfl ?_
  refine own_getFRc X0 hx hZ hown (own_hw hw 101 rfl) e0 D3 4 rfl (hb hby own_d14_1) fun T273 X273 e273 => ?_
  refine own_i2l X273 hx 5 rfl (hb hby own_d14_4) _ rfl ?_
  refine own_aloadN X273 hx 6 rfl (hb hby own_d14_5) rfl rfl ?_
  refine own_getF X273 hx hZ (host := "") hown (Or.inl (own_hw hw 54 rfl)) Via.refl e273 Fr' 9 rfl (hb hby own_d14_6) fun T274 X274 e274 => ?_
  refine own_ladd X274 hx 10 rfl (hb hby own_d14_9) _ rfl ?_
  refine own_lstoreN X274 hx 11 rfl (hb hby own_d14_10) #[.val (.ref o), .val (.ref b), .val (.long ((f.toInt64) + r)), .second] rfl ?_
  refine own_aloadN X274 hx 12 rfl (hb hby own_d14_11) rfl rfl ?_
  refine own_dup X274 hx 13 rfl (hb hby own_d14_12) rfl ?_
  refine own_getFRc X274 hx hZ hown (own_hw hw 102 rfl) e274 D2 16 rfl (hb hby own_d14_13) fun T275 X275 e275 => ?_
  refine own_aloadN X275 hx 17 rfl (hb hby own_d14_16) rfl rfl ?_
  refine own_getF X275 hx hZ (host := "") hown (Or.inl (own_hw hw 52 rfl)) Via.refl e275 Fq 20 rfl (hb hby own_d14_17) fun T276 X276 e276 => ?_
  refine own_lloadN X276 hx 21 rfl (hb hby own_d14_20) rfl ?_
  refine own_aloadN X276 hx 22 rfl (hb hby own_d14_21) rfl rfl ?_
  refine own_getF X276 hx hZ (host := "") hown (Or.inl (own_hw hw 42 rfl)) Via.refl e276 Fk 25 rfl (hb hby own_d14_22) fun T277 X277 e277 => ?_
  refine own_i2l X277 hx 26 rfl (hb hby own_d14_25) _ rfl ?_
  refine own_ldiv X277 hx 27 rfl (hb hby own_d14_26) hk _ rfl ?_
  refine own_ladd X277 hx 28 rfl (hb hby own_d14_27) _ rfl ?_
  refine own_ladd X277 hx 29 rfl (hb hby own_d14_28) _ rfl ?_
  refine own_putFRc X277 hx hZ hown (own_hw hw 102 rfl) e277 D2 D0 (own_hw hw 77 rfl) (own_hw hw 63 rfl) (ty := .long) (by decide) rfl rfl 32 rfl (hb hby own_d14_29) fun T278 h278 X278 e278 W278 => ?_
  have f279 := Fk.other W278 (Or.inl hne)
  have f280 := Fq.other W278 (Or.inl hne)
  have f281 := Fr'.other W278 (Or.inl hne)
  have f282 := D0.wr W278
  have f283 := D1.other W278 (Or.inr (slot_ne (Or.inl (own_hw hw 70 rfl)) (Or.inl (own_hw hw 77 rfl)) (by decide) (t := .long) (t' := .long) (by decide) (by decide)))
  have f284 := D3.other W278 (Or.inr (slot_ne (Or.inl (own_hw hw 87 rfl)) (Or.inl (own_hw hw 77 rfl)) (by decide) (t := .int) (t' := .long) (by decide) (by decide)))
  have z285 := Nat.le_trans Z0 (Keep.of_wr W278).1
  have K286 := K0.wr W278 (Or.inl (List.mem_of_getElem? (i := 0) rfl))
  have f287 := D2.same W278
  have N288 := Fr.snoc X278 N0 g_b
  refine own_aloadN X278 hx 33 rfl (hb hby own_d14_32) rfl rfl ?_
  refine own_lloadN X278 hx 34 rfl (hb hby own_d14_33) rfl ?_
  refine own_aloadN X278 hx 35 rfl (hb hby own_d14_34) rfl rfl ?_
  refine own_getF X278 hx hZ (host := "") hown (Or.inl (own_hw hw 42 rfl)) Via.refl e278 f279 38 rfl (hb hby own_d14_35) fun T289 X289 e289 => ?_
  refine own_i2l X289 hx 39 rfl (hb hby own_d14_38) _ rfl ?_
  refine own_lrem X289 hx 40 rfl (hb hby own_d14_39) hk _ rfl ?_
  refine own_l2i X289 hx 41 rfl (hb hby own_d14_40) _ rfl ?_
  refine own_putFRc X289 hx hZ hown (own_hw hw 101 rfl) e289 f284 f282 (own_hw hw 87 rfl) (own_hw hw 63 rfl) (ty := .int) (by decide) rfl rfl 44 rfl (hb hby own_d14_41) fun T290 h290 X290 e290 W290 => ?_
  have f291 := f279.other W290 (Or.inl hne)
  have f292 := f280.other W290 (Or.inl hne)
  have f293 := f281.other W290 (Or.inl hne)
  have f294 := f282.wr W290
  have f295 := f283.other W290 (Or.inr (slot_ne (Or.inl (own_hw hw 70 rfl)) (Or.inl (own_hw hw 87 rfl)) (by decide) (t := .long) (t' := .int) (by decide) (by decide)))
  have f296 := f287.other W290 (Or.inr (slot_ne (Or.inl (own_hw hw 77 rfl)) (Or.inl (own_hw hw 87 rfl)) (by decide) (t := .long) (t' := .int) (by decide) (by decide)))
  have z297 := Nat.le_trans z285 (Keep.of_wr W290).1
  have K298 := K286.wr W290 (Or.inl (List.mem_of_getElem? (i := 0) rfl))
  have f299 := f284.same W290
  have N300 := Fr.snoc X290 N288 g_b
  refine own_ret X290 none (fun _ => rfl) Bd.notSynchronized (by decide) (by decide) ?_ (fun fs hr => X290.returnOut hx Bd.returns (hb hby own_d14_44) hr)
  show Q_rm_addp Z o b k q r t a f h0 n0 _ T290.heap _
  rw [e290]
  exact ⟨rfl, N300, K298, f294, f295, f296, f299⟩
theorem own_ef_rm_up (m : MethodId) (o : Addr) : entryFrame m #[(.ref o)] 1 = mkF m 0 #[.val (.ref o)] [] := by first | (simp [entryFrame, mkF, argsToLocals, Value.category]; done) | rfl
def Q_rm_up (Z : State) (o : Addr) (a : Int64) (f : Int32) (h0 : Heap) (n0 : Nat) (v : Option Value) (h : Heap) (L : List Loc) : Prop := v = some (.long (own_up a f)) ∧ Fr n0 L ∧ h = h0
theorem own_d13_0 : decode prog_17_method_4_code 0 = .ok (.aload_n 0, 1) := by decide +kernel
theorem own_d13_1 : decode prog_17_method_4_code 1 = .ok (.getfield 22, 3) := by decide +kernel
theorem own_d13_4 : decode prog_17_method_4_code 4 = .ok (.ifCond .le 12, 3) := by decide +kernel
theorem own_d13_7 : decode prog_17_method_4_code 7 = .ok (.aload_n 0, 1) := by decide +kernel
theorem own_d13_8 : decode prog_17_method_4_code 8 = .ok (.getfield 13, 3) := by decide +kernel
theorem own_d13_11 : decode prog_17_method_4_code 11 = .ok (.lconst 1, 1) := by decide +kernel
theorem own_d13_12 : decode prog_17_method_4_code 12 = .ok (.ladd, 1) := by decide +kernel
theorem own_d13_13 : decode prog_17_method_4_code 13 = .ok (.goto 7, 3) := by decide +kernel
theorem own_d13_20 : decode prog_17_method_4_code 20 = .ok (.lreturn, 1) := by decide +kernel
theorem own_d13_16 : decode prog_17_method_4_code 16 = .ok (.aload_n 0, 1) := by decide +kernel
theorem own_d13_17 : decode prog_17_method_4_code 17 = .ok (.getfield 13, 3) := by decide +kernel
set_option maxRecDepth 65536 in
set_option maxHeartbeats 40000000 in
theorem rm_up (l : Launch) (Z : State) (a0 : Array Value) (hw : ∀ d ∈ tables_1, d.before a0 Z = true) (ws : List Jvm.Cond) (o : Addr) (a : Int64) (f : Int32) (h0 : Heap) (n0 : Nat) (Z0 : n0 ≤ h0.size) (F1 : Fld Z h0 o "com/example/portunus/portunus/Periods$Debt" "nanos" "J" (.long a)) (F2 : Fld Z h0 o "com/example/portunus/portunus/Periods$Debt" "fraction" "I" (.int f)) :
    MetFree l (⟨"com/example/portunus/portunus/Periods$Debt", "roundedUp", "()J"⟩ : MethodName) (head1 (Jvm.Cond.code (⟨"com/example/portunus/portunus/Periods$Debt", "roundedUp", "()J"⟩ : MethodName) prog_17_method_4_code 1 (some .long) :: ws) ({ frames := 0, cells := 0, slots := 0, locals := 0 } : Room)) (fun aa U => aa = #[(.ref o)] ∧ Z.Warmed39 U.vm ∧ U.heap = h0) (fun _ _ _ _ _ => True) (fun _ U ou U' => ∃ v L, ou = .returned v ∧ Q_rm_up Z o a f h0 n0 v U'.heap L ∧ FrameEnd U ou U' L ({ frames := 0, cells := 0, slots := 0, locals := 0 } : Room).cells ({ frames := 0, cells := 0, slots := 0, locals := 0 } : Room).slots) := by
  refine MetFree.of_bodySF (plainFor_of_name own_pn2) hisR ?_
  intro p e s m args below meth c s₁ Bd hml0 hP hK
  obtain ⟨rfl, hZ, hh⟩ := hP
  have hx := Bd.exec
  have hby := Bd.bytes
  have hml : c.maxLocals = 1 := hml0
  have hown : s.vm.findClass "com/example/portunus/portunus/Periods$Debt" = some m.cls := findClass_of_methodNamed Bd.named
  have hnm := (name_of_methodNamed Bd.named Bd.method).1
  have X0 : Stand p l e ({ frames := 0, cells := 0, slots := 0, locals := 0 } : Room) s m #[(.ref o)] below meth c s₁ [] 0 0 := Stand.of_body Bd
  have e0 : s₁.heap = h0 := by rw [← hh, Bd.state]; rfl
  have N0 := Fr.nil n0
  show own_Go p e below (fun o u L => FrameEnd s o u L ({ frames := 0, cells := 0, slots := 0, locals := 0 } : Room).cells ({ frames := 0, cells := 0, slots := 0, locals := 0 } : Room).slots) (Q_rm_up Z o a f h0 n0) (s₁.setTop (entryFrame m #[(.ref o)] 1))
  rw [own_ef_rm_up m o]
  show own_Go _ _ _ _ _ (State.setTop _ (mkF _ 0 #[.val (.ref o)] []))
  refine own_aloadN X0 hx 1 rfl (hb hby own_d13_0) rfl rfl ?_
  refine own_getF X0 hx hZ (host := "") hown (Or.inl (own_hw hw 86 rfl)) Via.refl e0 F2 4 rfl (hb hby own_d13_1) fun T301 X301 e301 => ?_
  by_cases hc302 : 0 < f
  ·
    refine own_ifNo X301 hx 7 rfl (hb hby own_d13_4) ((if0 _ _).trans (tlt hc302).2.2.2) ?_
    refine own_aloadN X301 hx 8 rfl (hb hby own_d13_7) rfl rfl ?_
    refine own_getF X301 hx hZ (host := "") hown (Or.inl (own_hw hw 76 rfl)) Via.refl e301 F1 11 rfl (hb hby own_d13_8) fun T303 X303 e303 => ?_
    refine own_lconst X303 hx 12 rfl (hb hby own_d13_11) (1 : Int64) rfl ?_
    refine own_ladd X303 hx 13 rfl (hb hby own_d13_12) _ rfl ?_
    refine own_goto X303 hx 20 (hb hby own_d13_13) (by decide) rfl ?_
    refine own_ret X303 (some (.long (a + (1 : Int64)))) (fun h => by rw [Bd.returns] at h; cases h) Bd.notSynchronized (by decide) (by decide) ?_ (fun fs hr => own_retJ X303 hx Bd.returns (hb hby own_d13_20) hr)
    show Q_rm_up Z o a f h0 n0 _ T303.heap _
    rw [e303]
    exact ⟨by unfold own_up; rw [if_pos hc302], N0, rfl⟩
  ·
    refine own_ifYes X301 hx 16 (hb hby own_d13_4) ((if0 _ _).trans (flt hc302).2.2.2) (by decide) rfl ?_
    refine own_aloadN X301 hx 17 rfl (hb hby own_d13_16) rfl rfl ?_
    refine own_getF X301 hx hZ (host := "") hown (Or.inl (own_hw hw 76 rfl)) Via.refl e301 F1 20 rfl (hb hby own_d13_17) fun T304 X304 e304 => ?_
    refine own_ret X304 (some (.long a)) (fun h => by rw [Bd.returns] at h; cases h) Bd.notSynchronized (by decide) (by decide) ?_ (fun fs hr => own_retJ X304 hx Bd.returns (hb hby own_d13_20) hr)
    show Q_rm_up Z o a f h0 n0 _ T304.heap _
    rw [e304]
    exact ⟨by unfold own_up; rw [if_neg hc302], N0, rfl⟩
theorem own_pn3 : plainName "java/lang/Long" = true := by first | (simp [plainName, overriddenIn]; done) | decide +kernel
theorem own_ef_rm_lcmp (m : MethodId) (a : Int64) (b : Int64) : entryFrame m #[(.long a), (.long b)] 4 = mkF m 0 #[.val (.long a), .second, .val (.long b), .second] [] := by first | (simp [entryFrame, mkF, argsToLocals, Value.category]; done) | rfl
def Q_rm_lcmp (Z : State) (a : Int64) (b : Int64) (r : Int32) (h0 : Heap) (n0 : Nat) (v : Option Value) (h : Heap) (L : List Loc) : Prop := v = some (.int r) ∧ Fr n0 L ∧ h = h0
theorem own_d11_0 : decode jdk_35_method_42_code 0 = .ok (.lload_n 0, 1) := by decide +kernel
theorem own_d11_1 : decode jdk_35_method_42_code 1 = .ok (.lload_n 2, 1) := by decide +kernel
theorem own_d11_2 : decode jdk_35_method_42_code 2 = .ok (.lcmp, 1) := by decide +kernel
theorem own_d11_3 : decode jdk_35_method_42_code 3 = .ok (.ifCond .ge 7, 3) := by decide +kernel
theorem own_d11_6 : decode jdk_35_method_42_code 6 = .ok (.iconst (-1), 1) := by decide +kernel
theorem own_d11_7 : decode jdk_35_method_42_code 7 = .ok (.goto 14, 3) := by decide +kernel
theorem own_d11_21 : decode jdk_35_method_42_code 21 = .ok (.ireturn, 1) := by decide +kernel
theorem own_d11_10 : decode jdk_35_method_42_code 10 = .ok (.lload_n 0, 1) := by decide +kernel
theorem own_d11_11 : decode jdk_35_method_42_code 11 = .ok (.lload_n 2, 1) := by decide +kernel
theorem own_d11_12 : decode jdk_35_method_42_code 12 = .ok (.lcmp, 1) := by decide +kernel
theorem own_d11_13 : decode jdk_35_method_42_code 13 = .ok (.ifCond .ne 7, 3) := by decide +kernel
theorem own_d11_16 : decode jdk_35_method_42_code 16 = .ok (.iconst 0, 1) := by decide +kernel
theorem own_d11_17 : decode jdk_35_method_42_code 17 = .ok (.goto 4, 3) := by decide +kernel
theorem own_d11_20 : decode jdk_35_method_42_code 20 = .ok (.iconst 1, 1) := by decide +kernel
set_option maxRecDepth 65536 in
set_option maxHeartbeats 40000000 in
theorem rm_lcmp (l : Launch) (Z : State) (a0 : Array Value) (hw : ∀ d ∈ tables_1, d.before a0 Z = true) (ws : List Jvm.Cond) (a : Int64) (b : Int64) (r : Int32) (h0 : Heap) (n0 : Nat) (Z0 : n0 ≤ h0.size) (hr : (if a < b then (-1 : Int32) else if a = b then 0 else 1) = r) :
    MetFree l (⟨"java/lang/Long", "compare", "(JJ)I"⟩ : MethodName) (head1 (Jvm.Cond.code (⟨"java/lang/Long", "compare", "(JJ)I"⟩ : MethodName) jdk_35_method_42_code 4 (some .int) :: ws) ({ frames := 0, cells := 0, slots := 0, locals := 0 } : Room)) (fun aa U => aa = #[(.long a), (.long b)] ∧ Z.Warmed39 U.vm ∧ U.heap = h0) (fun _ _ _ _ _ => True) (fun _ U ou U' => ∃ v L, ou = .returned v ∧ Q_rm_lcmp Z a b r h0 n0 v U'.heap L ∧ FrameEnd U ou U' L ({ frames := 0, cells := 0, slots := 0, locals := 0 } : Room).cells ({ frames := 0, cells := 0, slots := 0, locals := 0 } : Room).slots) := by
  refine MetFree.of_bodySF (plainFor_of_name own_pn3) hisR ?_
  intro p e s m args below meth c s₁ Bd hml0 hP hK
  obtain ⟨rfl, hZ, hh⟩ := hP
  have hx := Bd.exec
  have hby := Bd.bytes
  have hml : c.maxLocals = 4 := hml0
  have hown : s.vm.findClass "java/lang/Long" = some m.cls := findClass_of_methodNamed Bd.named
  have hnm := (name_of_methodNamed Bd.named Bd.method).1
  have X0 : Stand p l e ({ frames := 0, cells := 0, slots := 0, locals := 0 } : Room) s m #[(.long a), (.long b)] below meth c s₁ [] 0 0 := Stand.of_body Bd
  have e0 : s₁.heap = h0 := by rw [← hh, Bd.state]; rfl
  have N0 := Fr.nil n0
  show own_Go p e below (fun o u L => FrameEnd s o u L ({ frames := 0, cells := 0, slots := 0, locals := 0 } : Room).cells ({ frames := 0, cells := 0, slots := 0, locals := 0 } : Room).slots) (Q_rm_lcmp Z a b r h0 n0) (s₁.setTop (entryFrame m #[(.long a), (.long b)] 4))
  rw [own_ef_rm_lcmp m a b]
  show own_Go _ _ _ _ _ (State.setTop _ (mkF _ 0 #[.val (.long a), .second, .val (.long b), .second] []))
  refine own_lloadN X0 hx 1 rfl (hb hby own_d11_0) rfl ?_
  refine own_lloadN X0 hx 2 rfl (hb hby own_d11_1) rfl ?_
  refine own_lcmp X0 hx 3 rfl (hb hby own_d11_2) _ rfl ?_
  by_cases hc305 : a < b
  ·
    refine own_ifNo X0 hx 6 rfl (hb hby own_d11_3) ((if0 _ _).trans (tlt ((lw_lt _ _).mpr hc305)).2.1) ?_
    refine own_iconst X0 hx 7 rfl (hb hby own_d11_6) (-1 : Int32) rfl ?_
    refine own_goto X0 hx 21 (hb hby own_d11_7) (by decide) rfl ?_
    refine own_ret X0 (some (.int (-1 : Int32))) (fun h => by rw [Bd.returns] at h; cases h) Bd.notSynchronized (by decide) (by decide) ?_ (fun fs hr => own_retI X0 hx Bd.returns (hb hby own_d11_21) hr)
    show Q_rm_lcmp Z a b r h0 n0 _ s₁.heap _
    rw [e0]
    exact ⟨by rw [← hr, if_pos hc305], N0, rfl⟩
  ·
    refine own_ifYes X0 hx 10 (hb hby own_d11_3) ((if0 _ _).trans (flt (fun z => hc305 ((lw_lt _ _).mp z))).2.1) (by decide) rfl ?_
    refine own_lloadN X0 hx 11 rfl (hb hby own_d11_10) rfl ?_
    refine own_lloadN X0 hx 12 rfl (hb hby own_d11_11) rfl ?_
    refine own_lcmp X0 hx 13 rfl (hb hby own_d11_12) _ rfl ?_
    by_cases hc306 : a = b
    ·
      refine own_ifNo X0 hx 16 rfl (hb hby own_d11_13) ((if0 _ _).trans (teq ((lw_eq _ _).mpr hc306)).2) ?_
      refine own_iconst X0 hx 17 rfl (hb hby own_d11_16) (0 : Int32) rfl ?_
      refine own_goto X0 hx 21 (hb hby own_d11_17) (by decide) rfl ?_
      refine own_ret X0 (some (.int (0 : Int32))) (fun h => by rw [Bd.returns] at h; cases h) Bd.notSynchronized (by decide) (by decide) ?_ (fun fs hr => own_retI X0 hx Bd.returns (hb hby own_d11_21) hr)
      show Q_rm_lcmp Z a b r h0 n0 _ s₁.heap _
      rw [e0]
      exact ⟨by rw [← hr, if_neg hc305, if_pos hc306], N0, rfl⟩
    ·
      refine own_ifYes X0 hx 20 (hb hby own_d11_13) ((if0 _ _).trans (feq (fun z => hc306 ((lw_eq _ _).mp z))).2) (by decide) rfl ?_
      refine own_iconst X0 hx 21 rfl (hb hby own_d11_20) (1 : Int32) rfl ?_
      refine own_ret X0 (some (.int (1 : Int32))) (fun h => by rw [Bd.returns] at h; cases h) Bd.notSynchronized (by decide) (by decide) ?_ (fun fs hr => own_retI X0 hx Bd.returns (hb hby own_d11_21) hr)
      show Q_rm_lcmp Z a b r h0 n0 _ s₁.heap _
      rw [e0]
      exact ⟨by rw [← hr, if_neg hc305, if_neg hc306], N0, rfl⟩
theorem own_ef_rm_cmpu (m : MethodId) (a : Int64) (b : Int64) : entryFrame m #[(.long a), (.long b)] 4 = mkF m 0 #[.val (.long a), .second, .val (.long b), .second] [] := by first | (simp [entryFrame, mkF, argsToLocals, Value.category]; done) | rfl
def Q_rm_cmpu (Z : State) (a : Int64) (b : Int64) (h0 : Heap) (n0 : Nat) (v : Option Value) (h : Heap) (L : List Loc) : Prop := v = some (.int (own_cu a b)) ∧ Fr n0 L ∧ h = h0
theorem own_d10_0 : decode jdk_35_method_43_code 0 = .ok (.lload_n 0, 1) := by decide +kernel
theorem own_d10_1 : decode jdk_35_method_43_code 1 = .ok (.ldc2_w 168, 3) := by decide +kernel
theorem own_d10_4 : decode jdk_35_method_43_code 4 = .ok (.ladd, 1) := by decide +kernel
theorem own_d10_5 : decode jdk_35_method_43_code 5 = .ok (.lload_n 2, 1) := by decide +kernel
theorem own_d10_6 : decode jdk_35_method_43_code 6 = .ok (.ldc2_w 168, 3) := by decide +kernel
theorem own_d10_9 : decode jdk_35_method_43_code 9 = .ok (.ladd, 1) := by decide +kernel
theorem own_d10_10 : decode jdk_35_method_43_code 10 = .ok (.invokestatic 302, 3) := by decide +kernel
theorem own_pd2 : parseMethodDescriptor "(JJ)I" = some ⟨[.long, .long], some .int⟩ := by decide +kernel
theorem own_d10_13 : decode jdk_35_method_43_code 13 = .ok (.ireturn, 1) := by decide +kernel
set_option maxRecDepth 65536 in
set_option maxHeartbeats 40000000 in
theorem rm_cmpu (l : Launch) (Z : State) (a0 : Array Value) (hw : ∀ d ∈ tables_1, d.before a0 Z = true) (ws : List Jvm.Cond) (a : Int64) (b : Int64) (h0 : Heap) (n0 : Nat) (Z0 : n0 ≤ h0.size)  :
    MetFree l (⟨"java/lang/Long", "compareUnsigned", "(JJ)I"⟩ : MethodName) (head1 (Jvm.Cond.code (⟨"java/lang/Long", "compareUnsigned", "(JJ)I"⟩ : MethodName) jdk_35_method_43_code 4 (some .int) :: ws) ({ frames := 1, cells := 0, slots := 0, locals := 15 } : Room)) (fun aa U => aa = #[(.long a), (.long b)] ∧ Z.Warmed39 U.vm ∧ U.heap = h0) (fun _ _ _ _ _ => True) (fun _ U ou U' => ∃ v L, ou = .returned v ∧ Q_rm_cmpu Z a b h0 n0 v U'.heap L ∧ FrameEnd U ou U' L ({ frames := 1, cells := 0, slots := 0, locals := 15 } : Room).cells ({ frames := 1, cells := 0, slots := 0, locals := 15 } : Room).slots) := by
  refine MetFree.of_bodySF (plainFor_of_name own_pn3) hisR ?_
  intro p e s m args below meth c s₁ Bd hml0 hP hK
  obtain ⟨rfl, hZ, hh⟩ := hP
  have hx := Bd.exec
  have hby := Bd.bytes
  have hml : c.maxLocals = 4 := hml0
  have hown : s.vm.findClass "java/lang/Long" = some m.cls := findClass_of_methodNamed Bd.named
  have hnm := (name_of_methodNamed Bd.named Bd.method).1
  have X0 : Stand p l e ({ frames := 1, cells := 0, slots := 0, locals := 15 } : Room) s m #[(.long a), (.long b)] below meth c s₁ [] 0 0 := Stand.of_body Bd
  have e0 : s₁.heap = h0 := by rw [← hh, Bd.state]; rfl
  have N0 := Fr.nil n0
  show own_Go p e below (fun o u L => FrameEnd s o u L ({ frames := 1, cells := 0, slots := 0, locals := 15 } : Room).cells ({ frames := 1, cells := 0, slots := 0, locals := 15 } : Room).slots) (Q_rm_cmpu Z a b h0 n0) (s₁.setTop (entryFrame m #[(.long a), (.long b)] 4))
  rw [own_ef_rm_cmpu m a b]
  show own_Go _ _ _ _ _ (State.setTop _ (mkF _ 0 #[.val (.long a), .second, .val (.long b), .second] []))
  refine own_lloadN X0 hx 1 rfl (hb hby own_d10_0) rfl ?_
  refine own_ldcJ X0 hx hZ hown (own_hw hw 82 rfl) 4 rfl (hb hby own_d10_1) ?_
  refine own_ladd X0 hx 5 rfl (hb hby own_d10_4) _ rfl ?_
  refine own_lloadN X0 hx 6 rfl (hb hby own_d10_5) rfl ?_
  refine own_ldcJ X0 hx hZ hown (own_hw hw 82 rfl) 9 rfl (hb hby own_d10_6) ?_
  refine own_ladd X0 hx 10 rfl (hb hby own_d10_9) _ rfl ?_
  refine own_callS X0 hx hZ (y := (⟨"java/lang/Long", "compare", "(JJ)I"⟩ : MethodName)) hown (own_hw hw 83 rfl) (own_hw hw 84 rfl) (by decide) (rm_lcmp l Z a0 hw [] (a + (-9223372036854775808 : Int64)) (b + (-9223372036854775808 : Int64)) (own_cu a b) h0 n0 Z0 rfl) (own_hw hw 85 rfl) (own_hw hw 80 rfl) (by decide) e0 (by rw [hml]; rfl) [(.long (a + (-9223372036854775808 : Int64))), (.long (b + (-9223372036854775808 : Int64)))] 0 (by decide) (Nat.le_of_eq rfl) (by decide) (by decide) (lenOf own_pd2 rfl) rfl rfl 13 rfl (hb hby own_d10_10) fun v307 T307 Lc307 X307 hQ307 => ?_
  obtain ⟨rfl, Nq307, e307⟩ := hQ307
  have N308 := Fr.app N0 Nq307
  show own_Go _ _ _ _ _ (State.setTop _ (mkF _ 13 _ [(.int (own_cu a b))]))
  refine own_ret X307 (some (.int (own_cu a b))) (fun h => by rw [Bd.returns] at h; cases h) Bd.notSynchronized (by decide) (by decide) ?_ (fun fs hr => own_retI X307 hx Bd.returns (hb hby own_d10_13) hr)
  show Q_rm_cmpu Z a b h0 n0 _ T307.heap _
  rw [e307]
  exact ⟨rfl, N308, rfl⟩
theorem own_ef_rm_pay (m : MethodId) (o : Addr) (w : Int64) : entryFrame m #[(.ref o), (.long w)] 5 = mkF m 0 #[.val (.ref o), .val (.long w), .second, .unset, .unset] [] := by first | (simp [entryFrame, mkF, argsToLocals, Value.category]; done) | rfl
def Q_rm_pay (Z : State) (o : Addr) (w : Int64) (t : Int64) (a : Int64) (f : Int32) (h0 : Heap) (n0 : Nat) (v : Option Value) (h : Heap) (L : List Loc) : Prop := v = none ∧ Fr n0 L ∧ Keep h0 h [o] ∧ Exa Z h o "com/example/portunus/portunus/Periods$Debt" ∧ Fld Z h o "com/example/portunus/portunus/Periods$Debt" "time" "J" (.long w) ∧ Fld Z h o "com/example/portunus/portunus/Periods$Debt" "nanos" "J" (.long (a - (w - t))) ∧ Fld Z h o "com/example/portunus/portunus/Periods$Debt" "fraction" "I" (.int f)
theorem own_d9_0 : decode prog_17_method_2_code 0 = .ok (.lload_n 1, 1) := by decide +kernel
theorem own_d9_1 : decode prog_17_method_2_code 1 = .ok (.aload_n 0, 1) := by decide +kernel
theorem own_d9_2 : decode prog_17_method_2_code 2 = .ok (.getfield 7, 3) := by decide +kernel
theorem own_d9_5 : decode prog_17_method_2_code 5 = .ok (.lsub, 1) := by decide +kernel
theorem own_d9_6 : decode prog_17_method_2_code 6 = .ok (.lstore_n 3, 1) := by decide +kernel
theorem own_d9_7 : decode prog_17_method_2_code 7 = .ok (.aload_n 0, 1) := by decide +kernel
theorem own_d9_8 : decode prog_17_method_2_code 8 = .ok (.lload_n 1, 1) := by decide +kernel
theorem own_d9_9 : decode prog_17_method_2_code 9 = .ok (.putfield 7, 3) := by decide +kernel
theorem own_d9_12 : decode prog_17_method_2_code 12 = .ok (.lload_n 3, 1) := by decide +kernel
theorem own_d9_13 : decode prog_17_method_2_code 13 = .ok (.aload_n 0, 1) := by decide +kernel
theorem own_d9_14 : decode prog_17_method_2_code 14 = .ok (.getfield 13, 3) := by decide +kernel
theorem own_d9_17 : decode prog_17_method_2_code 17 = .ok (.invokestatic 16, 3) := by decide +kernel
theorem own_d9_20 : decode prog_17_method_2_code 20 = .ok (.ifCond .le 16, 3) := by decide +kernel
theorem own_d9_36 : decode prog_17_method_2_code 36 = .ok (.aload_n 0, 1) := by decide +kernel
theorem own_d9_37 : decode prog_17_method_2_code 37 = .ok (.dup, 1) := by decide +kernel
theorem own_d9_38 : decode prog_17_method_2_code 38 = .ok (.getfield 13, 3) := by decide +kernel
theorem own_d9_41 : decode prog_17_method_2_code 41 = .ok (.lload_n 3, 1) := by decide +kernel
theorem own_d9_42 : decode prog_17_method_2_code 42 = .ok (.lsub, 1) := by decide +kernel
theorem own_d9_43 : decode prog_17_method_2_code 43 = .ok (.putfield 13, 3) := by decide +kernel
theorem own_d9_46 : decode prog_17_method_2_code 46 = .ok (.return_, 1) := by decide +kernel
set_option maxRecDepth 65536 in
set_option maxHeartbeats 40000000 in
theorem rm_pay (l : Launch) (Z : State) (a0 : Array Value) (hw : ∀ d ∈ tables_1, d.before a0 Z = true) (ws : List Jvm.Cond) (o : Addr) (w : Int64) (t : Int64) (a : Int64) (f : Int32) (h0 : Heap) (n0 : Nat) (Z0 : n0 ≤ h0.size) (D0 : Exa Z h0 o "com/example/portunus/portunus/Periods$Debt") (D1 : Fld Z h0 o "com/example/portunus/portunus/Periods$Debt" "time" "J" (.long t)) (D2 : Fld Z h0 o "com/example/portunus/portunus/Periods$Debt" "nanos" "J" (.long a)) (D3 : Fld Z h0 o "com/example/portunus/portunus/Periods$Debt" "fraction" "I" (.int f)) (g_o : n0 ≤ o) (hc : ¬ 0 < own_cu (w - t) a) :
    MetFree l (⟨"com/example/portunus/portunus/Periods$Debt", "payOff", "(J)V"⟩ : MethodName) (head1 (Jvm.Cond.code (⟨"com/example/portunus/portunus/Periods$Debt", "payOff", "(J)V"⟩ : MethodName) prog_17_method_2_code 5 none :: ws) ({ frames := 2, cells := 0, slots := 0, locals := 30 } : Room)) (fun aa U => aa = #[(.ref o), (.long w)] ∧ Z.Warmed39 U.vm ∧ U.heap = h0) (fun _ _ _ _ _ => True) (fun _ U ou U' => ∃ v L, ou = .returned v ∧ Q_rm_pay Z o w t a f h0 n0 v U'.heap L ∧ FrameEnd U ou U' L ({ frames := 2, cells := 0, slots := 0, locals := 30 } : Room).cells ({ frames := 2, cells := 0, slots := 0, locals := 30 } : Room).slots) := by
  refine MetFree.of_bodySF (plainFor_of_name own_pn2) hisR ?_
  intro p e s m args below meth c s₁ Bd hml0 hP hK
  obtain ⟨rfl, hZ, hh⟩ := hP
  have hx := Bd.exec
  have hby := Bd.bytes
  have hml : c.maxLocals = 5 := hml0
  have hown : s.vm.findClass "com/example/portunus/portunus/Periods$Debt" = some m.cls := findClass_of_methodNamed Bd.named
  have hnm := (name_of_methodNamed Bd.named Bd.method).1
  have X0 : Stand p l e ({ frames := 2, cells := 0, slots := 0, locals := 30 } : Room) s m #[(.ref o), (.long w)] below meth c s₁ [] 0 0 := Stand.of_body Bd
  have e0 : s₁.heap = h0 := by rw [← hh, Bd.state]; rfl
  have N0 := Fr.nil n0
  have K0 := Keep.refl h0 [o]
  show own_Go p e below (fun o u L => FrameEnd s o u L ({ frames := 2, cells := 0, slots := 0, locals := 30 } : Room).cells ({ frames := 2, cells := 0, slots := 0, locals := 30 } : Room).slots) (Q_rm_pay Z o w t a f h0 n0) (s₁.setTop (entryFrame m #[(.ref o), (.long w)] 5))
  rw [own_ef_rm_pay m o w]
  show own_Go _ _ _ _ _ (State.setTop _ (mkF _ 0 #[.val (.ref o), .val (.long w), .second, .unset, .unset] []))
  refine own_lloadN X0 hx 1 rfl (hb hby own_d9_0) rfl ?_
  refine own_aloadN X0 hx 2 rfl (hb hby own_d9_1) rfl rfl ?_
  refine own_getF X0 hx hZ (host := "") hown (Or.inl (own_hw hw 69 rfl)) Via.refl e0 D1 5 rfl (hb hby own_d9_2) fun T309 X309 e309 => ?_
  refine own_lsub X309 hx 6 rfl (hb hby own_d9_5) _ rfl ?_
  refine own_lstoreN X309 hx 7 rfl (hb hby own_d9_6) #[.val (.ref o), .val (.long w), .second, .val (.long (w - t)), .second] rfl ?_
  refine own_aloadN X309 hx 8 rfl (hb hby own_d9_7) rfl rfl ?_
  refine own_lloadN X309 hx 9 rfl (hb hby own_d9_8) rfl ?_
  refine own_putF X309 hx hZ (host := "") hown (Or.inl (own_hw hw 69 rfl)) Via.refl e309 D1 D0 (Or.inl (own_hw hw 70 rfl)) (own_hw hw 63 rfl) (ty := .long) (by decide) rfl rfl 12 rfl (hb hby own_d9_9) fun T310 h310 X310 e310 W310 => ?_
  have f311 := D0.wr W310
  have f312 := D2.other W310 (Or.inr (slot_ne (Or.inl (own_hw hw 77 rfl)) (Or.inl (own_hw hw 70 rfl)) (by decide) (t := .long) (t' := .long) (by decide) (by decide)))
  have f313 := D3.other W310 (Or.inr (slot_ne (Or.inl (own_hw hw 87 rfl)) (Or.inl (own_hw hw 70 rfl)) (by decide) (t := .int) (t' := .long) (by decide) (by decide)))
  have z314 := Nat.le_trans Z0 (Keep.of_wr W310).1
  have K315 := K0.wr W310 (Or.inl (List.mem_of_getElem? (i := 0) rfl))
  have f316 := D1.same W310
  have N317 := Fr.snoc X310 N0 g_o
  refine own_lloadN X310 hx 13 rfl (hb hby own_d9_12) rfl ?_
  refine own_aloadN X310 hx 14 rfl (hb hby own_d9_13) rfl rfl ?_
  refine own_getF X310 hx hZ (host := "") hown (Or.inl (own_hw hw 76 rfl)) Via.refl e310 f312 17 rfl (hb hby own_d9_14) fun T318 X318 e318 => ?_
  refine own_callS X318 hx hZ (y := (⟨"java/lang/Long", "compareUnsigned", "(JJ)I"⟩ : MethodName)) hown (own_hw hw 78 rfl) (own_hw hw 79 rfl) (by decide) (rm_cmpu l Z a0 hw [] (w - t) a h310 n0 z314 ) (own_hw hw 81 rfl) (own_hw hw 80 rfl) (by decide) e318 (by rw [hml]; rfl) [(.long (w - t)), (.long a)] 0 (by decide) (Nat.le_of_eq rfl) (by decide) (by decide) (lenOf own_pd2 rfl) rfl rfl 20 rfl (hb hby own_d9_17) fun v319 T319 Lc319 X319 hQ319 => ?_
  obtain ⟨rfl, Nq319, e319⟩ := hQ319
  have N320 := Fr.app N317 Nq319
  show own_Go _ _ _ _ _ (State.setTop _ (mkF _ 20 _ [(.int (own_cu (w - t) a))]))
  refine own_ifYes X319 hx 36 (hb hby own_d9_20) ((if0 _ _).trans (flt hc).2.2.2) (by decide) rfl ?_
  refine own_aloadN X319 hx 37 rfl (hb hby own_d9_36) rfl rfl ?_
  refine own_dup X319 hx 38 rfl (hb hby own_d9_37) rfl ?_
  refine own_getF X319 hx hZ (host := "") hown (Or.inl (own_hw hw 76 rfl)) Via.refl e319 f312 41 rfl (hb hby own_d9_38) fun T321 X321 e321 => ?_
  refine own_lloadN X321 hx 42 rfl (hb hby own_d9_41) rfl ?_
  refine own_lsub X321 hx 43 rfl (hb hby own_d9_42) _ rfl ?_
  refine own_putF X321 hx hZ (host := "") hown (Or.inl (own_hw hw 76 rfl)) Via.refl e321 f312 f311 (Or.inl (own_hw hw 77 rfl)) (own_hw hw 63 rfl) (ty := .long) (by decide) rfl rfl 46 rfl (hb hby own_d9_43) fun T322 h322 X322 e322 W322 => ?_
  have f323 := f311.wr W322
  have f324 := f313.other W322 (Or.inr (slot_ne (Or.inl (own_hw hw 87 rfl)) (Or.inl (own_hw hw 77 rfl)) (by decide) (t := .int) (t' := .long) (by decide) (by decide)))
  have f325 := f316.other W322 (Or.inr (slot_ne (Or.inl (own_hw hw 70 rfl)) (Or.inl (own_hw hw 77 rfl)) (by decide) (t := .long) (t' := .long) (by decide) (by decide)))
  have z326 := Nat.le_trans z314 (Keep.of_wr W322).1
  have K327 := K315.wr W322 (Or.inl (List.mem_of_getElem? (i := 0) rfl))
  have f328 := f312.same W322
  have N329 := Fr.snoc X322 N320 g_o
  refine own_ret X322 none (fun _ => rfl) Bd.notSynchronized (by decide) (by decide) ?_ (fun fs hr => X322.returnOut hx Bd.returns (hb hby own_d9_46) hr)
  show Q_rm_pay Z o w t a f h0 n0 _ T322.heap _
  rw [e322]
  exact ⟨rfl, N329, K327, f323, f325, f328, f324⟩
theorem own_ef_rm_paygone (m : MethodId) (o : Addr) (w : Int64) : entryFrame m #[(.ref o), (.long w)] 5 = mkF m 0 #[.val (.ref o), .val (.long w), .second, .unset, .unset] [] := by first | (simp [entryFrame, mkF, argsToLocals, Value.category]; done) | rfl
def Q_rm_paygone (Z : State) (o : Addr) (w : Int64) (t : Int64) (a : Int64) (f : Int32) (h0 : Heap) (n0 : Nat) (v : Option Value) (h : Heap) (L : List Loc) : Prop := v = none ∧ Fr n0 L ∧ Keep h0 h [o] ∧ Exa Z h o "com/example/portunus/portunus/Periods$Debt" ∧ Fld Z h o "com/example/portunus/portunus/Periods$Debt" "time" "J" (.long w) ∧ Fld Z h o "com/example/portunus/portunus/Periods$Debt" "nanos" "J" (.long (0 : Int64)) ∧ Fld Z h o "com/example/portunus/portunus/Periods$Debt" "fraction" "I" (.int (0 : Int32))
theorem own_d9_23 : decode prog_17_method_2_code 23 = .ok (.aload_n 0, 1) := by decide +kernel
theorem own_d9_24 : decode prog_17_method_2_code 24 = .ok (.lconst 0, 1) := by decide +kernel
theorem own_d9_25 : decode prog_17_method_2_code 25 = .ok (.putfield 13, 3) := by decide +kernel
theorem own_d9_28 : decode prog_17_method_2_code 28 = .ok (.aload_n 0, 1) := by decide +kernel
theorem own_d9_29 : decode prog_17_method_2_code 29 = .ok (.iconst 0, 1) := by decide +kernel
theorem own_d9_30 : decode prog_17_method_2_code 30 = .ok (.putfield 22, 3) := by decide +kernel
theorem own_d9_33 : decode prog_17_method_2_code 33 = .ok (.goto 13, 3) := by decide +kernel
set_option maxRecDepth 65536 in
set_option maxHeartbeats 40000000 in
theorem rm_paygone (l : Launch) (Z : State) (a0 : Array Value) (hw : ∀ d ∈ tables_1, d.before a0 Z = true) (ws : List Jvm.Cond) (o : Addr) (w : Int64) (t : Int64) (a : Int64) (f : Int32) (h0 : Heap) (n0 : Nat) (Z0 : n0 ≤ h0.size) (D0 : Exa Z h0 o "com/example/portunus/portunus/Periods$Debt") (D1 : Fld Z h0 o "com/example/portunus/portunus/Periods$Debt" "time" "J" (.long t)) (D2 : Fld Z h0 o "com/example/portunus/portunus/Periods$Debt" "nanos" "J" (.long a)) (D3 : Fld Z h0 o "com/example/portunus/portunus/Periods$Debt" "fraction" "I" (.int f)) (g_o : n0 ≤ o) (hc : 0 < own_cu (w - t) a) :
    MetFree l (⟨"com/example/portunus/portunus/Periods$Debt", "payOff", "(J)V"⟩ : MethodName) (head1 (Jvm.Cond.code (⟨"com/example/portunus/portunus/Periods$Debt", "payOff", "(J)V"⟩ : MethodName) prog_17_method_2_code 5 none :: ws) ({ frames := 2, cells := 0, slots := 0, locals := 30 } : Room)) (fun aa U => aa = #[(.ref o), (.long w)] ∧ Z.Warmed39 U.vm ∧ U.heap = h0) (fun _ _ _ _ _ => True) (fun _ U ou U' => ∃ v L, ou = .returned v ∧ Q_rm_paygone Z o w t a f h0 n0 v U'.heap L ∧ FrameEnd U ou U' L ({ frames := 2, cells := 0, slots := 0, locals := 30 } : Room).cells ({ frames := 2, cells := 0, slots := 0, locals := 30 } : Room).slots) := by
  refine MetFree.of_bodySF (plainFor_of_name own_pn2) hisR ?_
  intro p e s m args below meth c s₁ Bd hml0 hP hK
  obtain ⟨rfl, hZ, hh⟩ := hP
  have hx := Bd.exec
  have hby := Bd.bytes
  have hml : c.maxLocals = 5 := hml0
  have hown : s.vm.findClass "com/example/portunus/portunus/Periods$Debt" = some m.cls := findClass_of_methodNamed Bd.named
  have hnm := (name_of_methodNamed Bd.named Bd.method).1
  have X0 : Stand p l e ({ frames := 2, cells := 0, slots := 0, locals := 30 } : Room) s m #[(.ref o), (.long w)] below meth c s₁ [] 0 0 := Stand.of_body Bd
  have e0 : s₁.heap = h0 := by rw [← hh, Bd.state]; rfl
  have N0 := Fr.nil n0
  have K0 := Keep.refl h0 [o]
  show own_Go p e below (fun o u L => FrameEnd s o u L ({ frames := 2, cells := 0, slots := 0, locals := 30 } : Room).cells ({ frames := 2, cells := 0, slots := 0, locals := 30 } : Room).slots) (Q_rm_paygone Z o w t a f h0 n0) (s₁.setTop (entryFrame m #[(.ref o), (.long w)] 5))
  rw [own_ef_rm_paygone m o w]
  show own_Go _ _ _ _ _ (State.setTop _ (mkF _ 0 #[.val (.ref o), .val (.long w), .second, .unset, .unset] []))
  refine own_lloadN X0 hx 1 rfl (hb hby own_d9_0) rfl ?_
  refine own_aloadN X0 hx 2 rfl (hb hby own_d9_1) rfl rfl ?_
  refine own_getF X0 hx hZ (host := "") hown (Or.inl (own_hw hw 69 rfl)) Via.refl e0 D1 5 rfl (hb hby own_d9_2) fun T330 X330 e330 => ?_
  refine own_lsub X330 hx 6 rfl (hb hby own_d9_5) _ rfl ?_
  refine own_lstoreN X330 hx 7 rfl (hb hby own_d9_6) #[.val (.ref o), .val (.long w), .second, .val (.long (w - t)), .second] rfl ?_
  refine own_aloadN X330 hx 8 rfl (hb hby own_d9_7) rfl rfl ?_
  refine own_lloadN X330 hx 9 rfl (hb hby own_d9_8) rfl ?_
  refine own_putF X330 hx hZ (host := "") hown (Or.inl (own_hw hw 69 rfl)) Via.refl e330 D1 D0 (Or.inl (own_hw hw 70 rfl)) (own_hw hw 63 rfl) (ty := .long) (by decide) rfl rfl 12 rfl (hb hby own_d9_9) fun T331 h331 X331 e331 W331 => ?_
  have f332 := D0.wr W331
  have f333 := D2.other W331 (Or.inr (slot_ne (Or.inl (own_hw hw 77 rfl)) (Or.inl (own_hw hw 70 rfl)) (by decide) (t := .long) (t' := .long) (by decide) (by decide)))
  have f334 := D3.other W331 (Or.inr (slot_ne (Or.inl (own_hw hw 87 rfl)) (Or.inl (own_hw hw 70 rfl)) (by decide) (t := .int) (t' := .long) (by decide) (by decide)))
  have z335 := Nat.le_trans Z0 (Keep.of_wr W331).1
  have K336 := K0.wr W331 (Or.inl (List.mem_of_getElem? (i := 0) rfl))
  have f337 := D1.same W331
  have N338 := Fr.snoc X331 N0 g_o
  refine own_lloadN X331 hx 13 rfl (hb hby own_d9_12) rfl ?_
  refine own_aloadN X331 hx 14 rfl (hb hby own_d9_13) rfl rfl ?_
  refine own_getF X331 hx hZ (host := "") hown (Or.inl (own_hw hw 76 rfl)) Via.refl e331 f333 17 rfl (hb hby own_d9_14) fun T339 X339 e339 => ?_
  refine own_callS X339 hx hZ (y := (⟨"java/lang/Long", "compareUnsigned", "(JJ)I"⟩ : MethodName)) hown (own_hw hw 78 rfl) (own_hw hw 79 rfl) (by decide) (rm_cmpu l Z a0 hw [] (w - t) a h331 n0 z335 ) (own_hw hw 81 rfl) (own_hw hw 80 rfl) (by decide) e339 (by rw [hml]; rfl) [(.long (w - t)), (.long a)] 0 (by decide) (Nat.le_of_eq rfl) (by decide) (by decide) (lenOf own_pd2 rfl) rfl rfl 20 rfl (hb hby own_d9_17) fun v340 T340 Lc340 X340 hQ340 => ?_
  obtain ⟨rfl, Nq340, e340⟩ := hQ340
  have N341 := Fr.app N338 Nq340
  show own_Go _ _ _ _ _ (State.setTop _ (mkF _ 20 _ [(.int (own_cu (w - t) a))]))
  refine own_ifNo X340 hx 23 rfl (hb hby own_d9_20) ((if0 _ _).trans (tlt hc).2.2.2) ?_
  refine own_aloadN X340 hx 24 rfl (hb hby own_d9_23) rfl rfl ?_
  refine own_lconst X340 hx 25 rfl (hb hby own_d9_24) (0 : Int64) rfl ?_
  refine own_putF X340 hx hZ (host := "") hown (Or.inl (own_hw hw 76 rfl)) Via.refl e340 f333 f332 (Or.inl (own_hw hw 77 rfl)) (own_hw hw 63 rfl) (ty := .long) (by decide) rfl rfl 28 rfl (hb hby own_d9_25) fun T342 h342 X342 e342 W342 => ?_
  have f343 := f332.wr W342
  have f344 := f334.other W342 (Or.inr (slot_ne (Or.inl (own_hw hw 87 rfl)) (Or.inl (own_hw hw 77 rfl)) (by decide) (t := .int) (t' := .long) (by decide) (by decide)))
  have f345 := f337.other W342 (Or.inr (slot_ne (Or.inl (own_hw hw 70 rfl)) (Or.inl (own_hw hw 77 rfl)) (by decide) (t := .long) (t' := .long) (by decide) (by decide)))
  have z346 := Nat.le_trans z335 (Keep.of_wr W342).1
  have K347 := K336.wr W342 (Or.inl (List.mem_of_getElem? (i := 0) rfl))
  have f348 := f333.same W342
  have N349 := Fr.snoc X342 N341 g_o
  refine own_aloadN X342 hx 29 rfl (hb hby own_d9_28) rfl rfl ?_
  refine own_iconst X342 hx 30 rfl (hb hby own_d9_29) (0 : Int32) rfl ?_
  refine own_putF X342 hx hZ (host := "") hown (Or.inl (own_hw hw 86 rfl)) Via.refl e342 f344 f343 (Or.inl (own_hw hw 87 rfl)) (own_hw hw 63 rfl) (ty := .int) (by decide) rfl rfl 33 rfl (hb hby own_d9_30) fun T350 h350 X350 e350 W350 => ?_
  have f351 := f343.wr W350
  have f352 := f345.other W350 (Or.inr (slot_ne (Or.inl (own_hw hw 70 rfl)) (Or.inl (own_hw hw 87 rfl)) (by decide) (t := .long) (t' := .int) (by decide) (by decide)))
  have f353 := f348.other W350 (Or.inr (slot_ne (Or.inl (own_hw hw 77 rfl)) (Or.inl (own_hw hw 87 rfl)) (by decide) (t := .long) (t' := .int) (by decide) (by decide)))
  have z354 := Nat.le_trans z346 (Keep.of_wr W350).1
  have K355 := K347.wr W350 (Or.inl (List.mem_of_getElem? (i := 0) rfl))
  have f356 := f344.same W350
  have N357 := Fr.snoc X350 N349 g_o
  refine own_goto X350 hx 46 (hb hby own_d9_33) (by decide) rfl ?_
  refine own_ret X350 none (fun _ => rfl) Bd.notSynchronized (by decide) (by decide) ?_ (fun fs hr => X350.returnOut hx Bd.returns (hb hby own_d9_46) hr)
  show Q_rm_paygone Z o w t a f h0 n0 _ T350.heap _
  rw [e350]
  exact ⟨rfl, N357, K355, f351, f352, f353, f356⟩
theorem own_ltk (i : Int32) {kk k : Int32} {K : Int} (h : (own_k i kk).toInt = K) (hk : K < k.toInt := by decide) : own_k i kk < k := by
  rw [Int32.lt_iff_toInt_lt, h]; exact hk
theorem own_pn4 : plainName "com/example/portunus/portunus/DebtRoundedUpPinLaw" = true := by first | (simp [plainName, overriddenIn]; done) | decide +kernel
theorem own_ef_rm0 (m : MethodId) (j0 : Int64) (i1 : Int32) (j2 : Int64) (i3 : Int32) (j4 : Int64) (i5 : Int32) : entryFrame m #[(.long j0), (.int i1), (.long j2), (.int i3), (.long j4), (.int i5)] maxLocals = mkF m 0 #[.val (.long j0), .second, .val (.int i1), .val (.long j2), .second, .val (.int i3), .val (.long j4), .second, .val (.int i5), .unset, .unset, .unset, .unset, .unset, .unset, .unset, .unset, .unset, .unset, .unset, .unset, .unset, .unset, .unset, .unset, .unset, .unset] [] := by first | (simp [entryFrame, mkF, argsToLocals, Value.category, maxLocals]; done) | rfl
def Q_rm0 (Z : State) (j0 : Int64) (i1 : Int32) (j2 : Int64) (i3 : Int32) (j4 : Int64) (i5 : Int32) (ty : Addr) (h0 : Heap) (n0 : Nat) (v : Option Value) (h : Heap) (L : List Loc) : Prop := v = some (.int 1) ∧ Fr n0 L
theorem own_pd3 : parseMethodDescriptor "(II)I" = some ⟨[.int, .int], some .int⟩ := by decide +kernel
theorem own_pd4 : parseMethodDescriptor "(IJLcom/example/portunus/portunus/RateLimiterType;)V" = some ⟨[.int, .long, (.object "com/example/portunus/portunus/RateLimiterType")], none⟩ := by decide +kernel
theorem own_pd5 : parseMethodDescriptor "(Lcom/example/portunus/portunus/RateLimiterConfig;)V" = some ⟨[(.object "com/example/portunus/portunus/RateLimiterConfig")], none⟩ := by decide +kernel
theorem own_pd6 : parseMethodDescriptor "(J)V" = some ⟨[.long], none⟩ := by decide +kernel
theorem own_pd7 : parseMethodDescriptor "(JJ)J" = some ⟨[.long, .long], some .long⟩ := by decide +kernel
theorem own_pd8 : parseMethodDescriptor "(Lcom/example/portunus/portunus/Periods$Debt;)V" = some ⟨[(.object "com/example/portunus/portunus/Periods$Debt")], none⟩ := by decide +kernel
set_option maxRecDepth 65536 in
set_option maxHeartbeats 40000000 in
theorem rm0 (l : Launch) (Z : State) (a0 : Array Value) (hw : ∀ d ∈ tables_1, d.before a0 Z = true) (ws : List Jvm.Cond) (j0 : Int64) (i1 : Int32) (j2 : Int64) (i3 : Int32) (j4 : Int64) (i5 : Int32) (ty : Addr) (h0 : Heap) (n0 : Nat) (Z0 : n0 ≤ h0.size) (S1 : Sta Z h0 "com/example/portunus/portunus/RateLimiterType" "TOKEN_BUCKET" "Lcom/example/portunus/portunus/RateLimiterType;" (.ref ty)) :
    MetFree l x (head1 (Jvm.Cond.code x code maxLocals ret :: ws) room_1) (fun aa U => aa = #[(.long j0), (.int i1), (.long j2), (.int i3), (.long j4), (.int i5)] ∧ Z.Warmed39 U.vm ∧ U.heap = h0) (fun _ _ _ _ _ => True) (fun _ U ou U' => ∃ v L, ou = .returned v ∧ Q_rm0 Z j0 i1 j2 i3 j4 i5 ty h0 n0 v U'.heap L ∧ FrameEnd U ou U' L room_1.cells room_1.slots) := by
  refine MetFree.of_bodySF (plainFor_of_name own_pn4) hisR ?_
  intro p e s m args below meth c s₁ Bd hml0 hP hK
  obtain ⟨rfl, hZ, hh⟩ := hP
  have hx := Bd.exec
  have hby := Bd.bytes
  have hml : c.maxLocals = 27 := hml0
  have hown : s.vm.findClass "com/example/portunus/portunus/DebtRoundedUpPinLaw" = some m.cls := findClass_of_methodNamed Bd.named
  have hnm := (name_of_methodNamed Bd.named Bd.method).1
  have X0 : Stand p l e room_1 s m #[(.long j0), (.int i1), (.long j2), (.int i3), (.long j4), (.int i5)] below meth c s₁ [] 0 0 := Stand.of_body Bd
  have e0 : s₁.heap = h0 := by rw [← hh, Bd.state]; rfl
  have N0 := Fr.nil n0
  show own_Go p e below (fun o u L => FrameEnd s o u L room_1.cells room_1.slots) (Q_rm0 Z j0 i1 j2 i3 j4 i5 ty h0 n0) (s₁.setTop (entryFrame m #[(.long j0), (.int i1), (.long j2), (.int i3), (.long j4), (.int i5)] maxLocals))
  rw [own_ef_rm0 m j0 i1 j2 i3 j4 i5]
  show own_Go _ _ _ _ _ (State.setTop _ (mkF _ 0 #[.val (.long j0), .second, .val (.int i1), .val (.long j2), .second, .val (.int i3), .val (.long j4), .second, .val (.int i5), .unset, .unset, .unset, .unset, .unset, .unset, .unset, .unset, .unset, .unset, .unset, .unset, .unset, .unset, .unset, .unset, .unset, .unset] []))
  refine own_iconst X0 hx 1 rfl (hb hby at_0) (1 : Int32) rfl ?_
  refine own_iloadN X0 hx 2 rfl (hb hby at_1) rfl ?_
  refine own_ldcI X0 hx hZ hown (own_hw hw 0 rfl) 4 rfl (hb hby at_2) ?_
  refine own_iand X0 hx 5 rfl (hb hby at_4) _ rfl ?_
  refine own_callS X0 hx hZ (y := (⟨"java/lang/Math", "max", "(II)I"⟩ : MethodName)) hown (own_hw hw 1 rfl) (own_hw hw 2 rfl) (by decide) (rm_maxI l Z a0 hw [] (1 : Int32) (i1 &&& (2147483647 : Int32)) (own_n i1) h0 n0 Z0 rfl) (own_hw hw 4 rfl) (own_hw hw 3 rfl) (by decide) e0 (by rw [hml]; rfl) [(.int (1 : Int32)), (.int (i1 &&& (2147483647 : Int32)))] 0 (by decide) (Nat.le_of_eq rfl) (by decide) (by decide) (lenOf own_pd3 rfl) rfl rfl 8 rfl (hb hby at_5) fun v358 T358 Lc358 X358 hQ358 => ?_
  obtain ⟨rfl, Nq358, e358⟩ := hQ358
  have N359 := Fr.app N0 Nq358
  show own_Go _ _ _ _ _ (State.setTop _ (mkF _ 8 _ [(.int (own_n i1))]))
  refine own_istore X358 hx 10 rfl (hb hby at_8) #[.val (.long j0), .second, .val (.int i1), .val (.long j2), .second, .val (.int i3), .val (.long j4), .second, .val (.int i5), .val (.int (own_n i1)), .unset, .unset, .unset, .unset, .unset, .unset, .unset, .unset, .unset, .unset, .unset, .unset, .unset, .unset, .unset, .unset, .unset] rfl ?_
  refine own_lloadN X358 hx 11 rfl (hb hby at_10) rfl ?_
  refine own_ldcJ X358 hx hZ hown (own_hw hw 5 rfl) 14 rfl (hb hby at_11) ?_
  refine own_land X358 hx 15 rfl (hb hby at_14) _ rfl ?_
  refine own_ldcJ X358 hx hZ hown (own_hw hw 6 rfl) 18 rfl (hb hby at_15) ?_
  refine own_lrem X358 hx 19 rfl (hb hby at_18) (by decide) _ rfl ?_
  refine own_lconst X358 hx 20 rfl (hb hby at_19) (1 : Int64) rfl ?_
  refine own_ladd X358 hx 21 rfl (hb hby at_20) _ rfl ?_
  refine own_lstore X358 hx 23 rfl (hb hby at_21) #[.val (.long j0), .second, .val (.int i1), .val (.long j2), .second, .val (.int i3), .val (.long j4), .second, .val (.int i5), .val (.int (own_n i1)), .val (.long (((j2 &&& (9223372036854775807 : Int64)) % (9223372036854 : Int64)) + (1 : Int64))), .second, .unset, .unset, .unset, .unset, .unset, .unset, .unset, .unset, .unset, .unset, .unset, .unset, .unset, .unset, .unset] rfl ?_
  show own_Go _ _ _ _ _ (State.setTop _ (mkF _ 23 #[.val (.long j0), .second, .val (.int i1), .val (.long j2), .second, .val (.int i3), .val (.long j4), .second, .val (.int i5), .val (.int (own_n i1)), .val (.long (own_ms j2)), .second, .unset, .unset, .unset, .unset, .unset, .unset, .unset, .unset, .unset, .unset, .unset, .unset, .unset, .unset, .unset] []))
  refine own_lload X358 hx 25 rfl (hb hby at_23) rfl ?_
  refine own_ldcJ X358 hx hZ hown (own_hw hw 7 rfl) 28 rfl (hb hby at_25) ?_
  refine own_lmul X358 hx 29 rfl (hb hby at_28) _ rfl ?_
  refine own_lstore X358 hx 31 rfl (hb hby at_29) #[.val (.long j0), .second, .val (.int i1), .val (.long j2), .second, .val (.int i3), .val (.long j4), .second, .val (.int i5), .val (.int (own_n i1)), .val (.long (own_ms j2)), .second, .val (.long ((own_ms j2) * (1000000 : Int64))), .second, .unset, .unset, .unset, .unset, .unset, .unset, .unset, .unset, .unset, .unset, .unset, .unset, .unset] rfl ?_
  show own_Go _ _ _ _ _ (State.setTop _ (mkF _ 31 #[.val (.long j0), .second, .val (.int i1), .val (.long j2), .second, .val (.int i3), .val (.long j4), .second, .val (.int i5), .val (.int (own_n i1)), .val (.long (own_ms j2)), .second, .val (.long (own_w j2)), .second, .unset, .unset, .unset, .unset, .unset, .unset, .unset, .unset, .unset, .unset, .unset, .unset, .unset] []))
  refine own_iload X358 hx 33 rfl (hb hby at_31) rfl ?_
  refine own_iconst X358 hx 34 rfl (hb hby at_33) (3 : Int32) rfl ?_
  refine own_iand X358 hx 35 rfl (hb hby at_34) _ rfl ?_
  refine own_iload X358 hx 37 rfl (hb hby at_35) rfl ?_
  refine own_callS X358 hx hZ (y := (⟨"java/lang/Math", "min", "(II)I"⟩ : MethodName)) hown (own_hw hw 8 rfl) (own_hw hw 9 rfl) (by decide) (rm_minI l Z a0 hw [] (i3 &&& (3 : Int32)) (own_n i1) (own_k i1 i3) h0 n0 Z0 rfl) (own_hw hw 10 rfl) (own_hw hw 3 rfl) (by decide) e358 (by rw [hml]; rfl) [(.int (i3 &&& (3 : Int32))), (.int (own_n i1))] 0 (by decide) (Nat.le_of_eq rfl) (by decide) (by decide) (lenOf own_pd3 rfl) rfl rfl 40 rfl (hb hby at_37) fun v360 T360 Lc360 X360 hQ360 => ?_
  obtain ⟨rfl, Nq360, e360⟩ := hQ360
  have N361 := Fr.app N359 Nq360
  show own_Go _ _ _ _ _ (State.setTop _ (mkF _ 40 _ [(.int (own_k i1 i3))]))
  refine own_istore X360 hx 42 rfl (hb hby at_40) #[.val (.long j0), .second, .val (.int i1), .val (.long j2), .second, .val (.int i3), .val (.long j4), .second, .val (.int i5), .val (.int (own_n i1)), .val (.long (own_ms j2)), .second, .val (.long (own_w j2)), .second, .val (.int (own_k i1 i3)), .unset, .unset, .unset, .unset, .unset, .unset, .unset, .unset, .unset, .unset, .unset, .unset] rfl ?_
  refine own_lload X360 hx 44 rfl (hb hby at_42) rfl ?_
  refine own_iload X360 hx 46 rfl (hb hby at_44) rfl ?_
  refine own_i2l X360 hx 47 rfl (hb hby at_46) _ rfl ?_
  refine own_ldiv X360 hx 48 rfl (hb hby at_47) (own_n64_nz i1) _ rfl ?_
  refine own_lstore X360 hx 50 rfl (hb hby at_48) #[.val (.long j0), .second, .val (.int i1), .val (.long j2), .second, .val (.int i3), .val (.long j4), .second, .val (.int i5), .val (.int (own_n i1)), .val (.long (own_ms j2)), .second, .val (.long (own_w j2)), .second, .val (.int (own_k i1 i3)), .val (.long ((own_w j2) / ((own_n i1).toInt64))), .second, .unset, .unset, .unset, .unset, .unset, .unset, .unset, .unset, .unset, .unset] rfl ?_
  show own_Go _ _ _ _ _ (State.setTop _ (mkF _ 50 #[.val (.long j0), .second, .val (.int i1), .val (.long j2), .second, .val (.int i3), .val (.long j4), .second, .val (.int i5), .val (.int (own_n i1)), .val (.long (own_ms j2)), .second, .val (.long (own_w j2)), .second, .val (.int (own_k i1 i3)), .val (.long (own_q i1 j2)), .second, .unset, .unset, .unset, .unset, .unset, .unset, .unset, .unset, .unset, .unset] []))
  refine own_lload X360 hx 52 rfl (hb hby at_50) rfl ?_
  refine own_iload X360 hx 54 rfl (hb hby at_52) rfl ?_
  refine own_i2l X360 hx 55 rfl (hb hby at_54) _ rfl ?_
  refine own_lrem X360 hx 56 rfl (hb hby at_55) (own_n64_nz i1) _ rfl ?_
  refine own_lstore X360 hx 58 rfl (hb hby at_56) #[.val (.long j0), .second, .val (.int i1), .val (.long j2), .second, .val (.int i3), .val (.long j4), .second, .val (.int i5), .val (.int (own_n i1)), .val (.long (own_ms j2)), .second, .val (.long (own_w j2)), .second, .val (.int (own_k i1 i3)), .val (.long (own_q i1 j2)), .second, .val (.long ((own_w j2) % ((own_n i1).toInt64))), .second, .unset, .unset, .unset, .unset, .unset, .unset, .unset, .unset] rfl ?_
  show own_Go _ _ _ _ _ (State.setTop _ (mkF _ 58 #[.val (.long j0), .second, .val (.int i1), .val (.long j2), .second, .val (.int i3), .val (.long j4), .second, .val (.int i5), .val (.int (own_n i1)), .val (.long (own_ms j2)), .second, .val (.long (own_w j2)), .second, .val (.int (own_k i1 i3)), .val (.long (own_q i1 j2)), .second, .val (.long (own_r i1 j2)), .second, .unset, .unset, .unset, .unset, .unset, .unset, .unset, .unset] []))
  refine own_iload X360 hx 60 rfl (hb hby at_58) rfl ?_
  refine own_i2l X360 hx 61 rfl (hb hby at_60) _ rfl ?_
  refine own_lload X360 hx 63 rfl (hb hby at_61) rfl ?_
  refine own_lmul X360 hx 64 rfl (hb hby at_63) _ rfl ?_
  refine own_iload X360 hx 66 rfl (hb hby at_64) rfl ?_
  refine own_i2l X360 hx 67 rfl (hb hby at_66) _ rfl ?_
  refine own_lload X360 hx 69 rfl (hb hby at_67) rfl ?_
  refine own_lmul X360 hx 70 rfl (hb hby at_69) _ rfl ?_
  refine own_iload X360 hx 72 rfl (hb hby at_70) rfl ?_
  refine own_i2l X360 hx 73 rfl (hb hby at_72) _ rfl ?_
  refine own_ladd X360 hx 74 rfl (hb hby at_73) _ rfl ?_
  refine own_lconst X360 hx 75 rfl (hb hby at_74) (1 : Int64) rfl ?_
  refine own_lsub X360 hx 76 rfl (hb hby at_75) _ rfl ?_
  refine own_iload X360 hx 78 rfl (hb hby at_76) rfl ?_
  refine own_i2l X360 hx 79 rfl (hb hby at_78) _ rfl ?_
  refine own_ldiv X360 hx 80 rfl (hb hby at_79) (own_n64_nz i1) _ rfl ?_
  refine own_ladd X360 hx 81 rfl (hb hby at_80) _ rfl ?_
  refine own_lstore X360 hx 83 rfl (hb hby at_81) #[.val (.long j0), .second, .val (.int i1), .val (.long j2), .second, .val (.int i3), .val (.long j4), .second, .val (.int i5), .val (.int (own_n i1)), .val (.long (own_ms j2)), .second, .val (.long (own_w j2)), .second, .val (.int (own_k i1 i3)), .val (.long (own_q i1 j2)), .second, .val (.long (own_r i1 j2)), .second, .val (.long ((((own_k i1 i3).toInt64) * (own_q i1 j2)) + ((((((own_k i1 i3).toInt64) * (own_r i1 j2)) + ((own_n i1).toInt64)) - (1 : Int64)) / ((own_n i1).toInt64)))), .second, .unset, .unset, .unset, .unset, .unset, .unset] rfl ?_
  have J120 : ∀ (TJ : State) (LJ : List Loc) (XJ : Stand p l e room_1 s m #[(.long j0), (.int i1), (.long j2), (.int i3), (.long j4), (.int i5)] below meth c TJ LJ 0 0) (eJ : TJ.heap = h0) (NJ : Fr n0 LJ) (x : Int64), (0 ≤ x.toInt) → own_Go p e below (fun o u L => FrameEnd s o u L room_1.cells room_1.slots) (Q_rm0 Z j0 i1 j2 i3 j4 i5 ty h0 n0) (TJ.setTop (mkF m 120 #[.val (.long j0), .second, .val (.int i1), .val (.long j2), .second, .val (.int i3), .val (.long j4), .second, .val (.int i5), .val (.int (own_n i1)), .val (.long (own_ms j2)), .second, .val (.long (own_w j2)), .second, .val (.int (own_k i1 i3)), .val (.long (own_q i1 j2)), .second, .val (.long (own_r i1 j2)), .second, .val (.long (own_c i1 j2 i3)), .second, .val (.long x), .second, .unset, .unset, .unset, .unset] [])) := by
    intro TJ LJ XJ eJ NJ x hx0
    show own_Go _ _ _ _ _ (State.setTop _ (mkF _ 120 #[.val (.long j0), .second, .val (.int i1), .val (.long j2), .second, .val (.int i3), .val (.long j4), .second, .val (.int i5), .val (.int (own_n i1)), .val (.long (own_ms j2)), .second, .val (.long (own_w j2)), .second, .val (.int (own_k i1 i3)), .val (.long (own_q i1 j2)), .second, .val (.long (own_r i1 j2)), .second, .val (.long (own_c i1 j2 i3)), .second, .val (.long x), .second, .unset, .unset, .unset, .unset] []))
    refine own_new XJ hx hZ hown (own_hw hw 11 rfl) (own_hw hw 12 rfl) (own_hw hw 13 rfl) eJ 123 rfl (hb hby at_120) (by decide) (by decide) fun T362 h362 b362 g362 X362 e362 E362 A362 D362 => ?_
    have ge363 : n0 ≤ b362 := Nat.le_trans Z0 (Nat.le_of_eq g362.symm)
    have f364 := S1.ext E362
    have z365 := Nat.le_trans Z0 E362.1
    have f366 : Fld Z h362 b362 "com/example/portunus/portunus/Periods" "maxRequests" "I" (.int (0 : Int32)) := D362 (Or.inr (own_hw hw 43 rfl)) (ty := .int) (by decide)
    have f367 : Fld Z h362 b362 "com/example/portunus/portunus/Periods" "windowNanos" "J" (.long (0 : Int64)) := D362 (Or.inr (own_hw hw 51 rfl)) (ty := .long) (by decide)
    have f368 : Fld Z h362 b362 "com/example/portunus/portunus/Periods" "periodNanos" "J" (.long (0 : Int64)) := D362 (Or.inr (own_hw hw 53 rfl)) (ty := .long) (by decide)
    have f369 : Fld Z h362 b362 "com/example/portunus/portunus/Periods" "periodFraction" "J" (.long (0 : Int64)) := D362 (Or.inr (own_hw hw 55 rfl)) (ty := .long) (by decide)
    have f370 : Fld Z h362 b362 "com/example/portunus/portunus/Periods" "periodForGuesses" "D" (.double (0 : UInt64)) := D362 (Or.inr (own_hw hw 57 rfl)) (ty := .double) (by decide)
    have f371 : Fld Z h362 b362 "com/example/portunus/portunus/Periods" "roomMarkNanos" "J" (.long (0 : Int64)) := D362 (Or.inr (own_hw hw 59 rfl)) (ty := .long) (by decide)
    have f372 : Fld Z h362 b362 "com/example/portunus/portunus/Periods" "roomMarkFraction" "J" (.long (0 : Int64)) := D362 (Or.inr (own_hw hw 61 rfl)) (ty := .long) (by decide)
    refine own_dup X362 hx 124 rfl (hb hby at_123) rfl ?_
    refine own_new X362 hx hZ hown (own_hw hw 14 rfl) (own_hw hw 15 rfl) (own_hw hw 16 rfl) e362 127 rfl (hb hby at_124) (by decide) (by decide) fun T373 h373 b373 g373 X373 e373 E373 A373 D373 => ?_
    have ne374 : b362 ≠ b373 := Nat.ne_of_lt (Nat.lt_of_lt_of_le A362.lt (Nat.le_of_eq g373.symm))
    have ge375 : n0 ≤ b373 := Nat.le_trans z365 (Nat.le_of_eq g373.symm)
    have f376 := f364.ext E373
    have f377 := A362.ext E373
    have f378 := f366.ext E373
    have f379 := f367.ext E373
    have f380 := f368.ext E373
    have f381 := f369.ext E373
    have f382 := f370.ext E373
    have f383 := f371.ext E373
    have f384 := f372.ext E373
    have z385 := Nat.le_trans z365 E373.1
    have f386 : Fld Z h373 b373 "com/example/portunus/portunus/RateLimiterConfig" "maxRequests" "I" (.int (0 : Int32)) := D373 (Or.inr (own_hw hw 28 rfl)) (ty := .int) (by decide)
    have f387 : Fld Z h373 b373 "com/example/portunus/portunus/RateLimiterConfig" "timeWindowMillis" "J" (.long (0 : Int64)) := D373 (Or.inr (own_hw hw 30 rfl)) (ty := .long) (by decide)
    have f388 : Fld Z h373 b373 "com/example/portunus/portunus/RateLimiterConfig" "type" "Lcom/example/portunus/portunus/RateLimiterType;" .null := D373 (Or.inr (own_hw hw 32 rfl)) (ty := (.object "com/example/portunus/portunus/RateLimiterType")) (by decide)
    refine own_dup X373 hx 128 rfl (hb hby at_127) rfl ?_
    refine own_iload X373 hx 130 rfl (hb hby at_128) rfl ?_
    refine own_lload X373 hx 132 rfl (hb hby at_130) rfl ?_
    refine own_getS X373 hx hZ (host := "") hown (Or.inl (own_hw hw 17 rfl)) Via.refl e373 f376 135 rfl (hb hby at_132) fun T389 X389 e389 => ?_
    refine own_special X389 hx hZ (y := (⟨"com/example/portunus/portunus/RateLimiterConfig", "<init>", "(IJLcom/example/portunus/portunus/RateLimiterType;)V"⟩ : MethodName)) hown rfl (own_hw hw 20 rfl) (own_hw hw 21 rfl) (a := b373) (by decide) rfl (rm_cfg l Z a0 hw [] b373 (own_n i1) (own_ms j2) ty h373 n0 z385 A373 f386 f387 f388 ge375 (own_n_pos i1) (own_ms_pos j2) (own_ms_le j2)) (own_hw hw 22 rfl) (own_hw hw 16 rfl) (by decide) e389 (by rw [hml]; rfl) [(.int (own_n i1)), (.long (own_ms j2)), (.ref ty)] 3 (by decide) (Nat.le_of_eq rfl) (by decide) (by decide) (lenOf own_pd4 rfl) rfl rfl 138 rfl (hb hby at_135) fun v390 T390 Lc390 X390 hQ390 => ?_
    obtain ⟨rfl, Nq390, Kq390, f391, f392, f393⟩ := hQ390
    have N394 := Fr.app NJ Nq390
    have f395 := own_staKeep f376 Kq390 (nsS A373.nostat ns0)
    have f396 := f377.keep Kq390
    have f397 := f378.keep Kq390 (ninS ne374 nin0)
    have f398 := f379.keep Kq390 (ninS ne374 nin0)
    have f399 := f380.keep Kq390 (ninS ne374 nin0)
    have f400 := f381.keep Kq390 (ninS ne374 nin0)
    have f401 := f382.keep Kq390 (ninS ne374 nin0)
    have f402 := f383.keep Kq390 (ninS ne374 nin0)
    have f403 := f384.keep Kq390 (ninS ne374 nin0)
    have f404 := A373.keep Kq390
    have z408 := Nat.le_trans z385 Kq390.1
    show own_Go _ _ _ _ _ (State.setTop _ (mkF _ 138 _ [(.ref b373), (.ref b362), (.ref b362)]))
    refine own_special X390 hx hZ (y := (⟨"com/example/portunus/portunus/Periods", "<init>", "(Lcom/example/portunus/portunus/RateLimiterConfig;)V"⟩ : MethodName)) hown rfl (own_hw hw 33 rfl) (own_hw hw 34 rfl) (a := b362) (by decide) rfl (rm_per l Z a0 hw [] b362 b373 (own_n i1) (own_ms j2) T390.heap n0 z408 f396 f397 f398 f399 f400 f401 f402 f403 ge363 f391 f392 f393 (Ne.symm ne374) (own_n64_nz i1) (own_n_ne i1)) (own_hw hw 35 rfl) (own_hw hw 13 rfl) (by decide) rfl (by rw [hml]; rfl) [(.ref b373)] 1 (by decide) (Nat.le_of_eq rfl) (by decide) (by decide) (lenOf own_pd5 rfl) rfl rfl 141 rfl (hb hby at_138) fun v409 T409 Lc409 X409 hQ409 => ?_
    obtain ⟨rfl, Nq409, Kq409, f410, f411, f412, f413⟩ := hQ409
    have N414 := Fr.app N394 Nq409
    have f415 := own_staKeep f395 Kq409 (nsS f396.nostat ns0)
    have f416 := f396.keep Kq409
    have f424 := f391.keep Kq409
    have f425 := f392.keep Kq409 (ninS (Ne.symm ne374) nin0)
    have f426 := f393.keep Kq409 (ninS (Ne.symm ne374) nin0)
    have z427 := Nat.le_trans z408 Kq409.1
    have f428 : Fld Z T409.heap b362 "com/example/portunus/portunus/Periods" "periodNanos" "J" (.long (own_q i1 j2)) := f412
    have f429 : Fld Z T409.heap b362 "com/example/portunus/portunus/Periods" "periodFraction" "J" (.long (own_r i1 j2)) := f413
    show own_Go _ _ _ _ _ (State.setTop _ (mkF _ 141 _ [(.ref b362)]))
    refine own_astore X409 hx 143 rfl (hb hby at_141) rfl #[.val (.long j0), .second, .val (.int i1), .val (.long j2), .second, .val (.int i3), .val (.long j4), .second, .val (.int i5), .val (.int (own_n i1)), .val (.long (own_ms j2)), .second, .val (.long (own_w j2)), .second, .val (.int (own_k i1 i3)), .val (.long (own_q i1 j2)), .second, .val (.long (own_r i1 j2)), .second, .val (.long (own_c i1 j2 i3)), .second, .val (.long x), .second, .val (.ref b362), .unset, .unset, .unset] rfl ?_
    refine own_new X409 hx hZ hown (own_hw hw 62 rfl) (own_hw hw 63 rfl) (own_hw hw 64 rfl) rfl 146 rfl (hb hby at_143) (by decide) (by decide) fun T430 h430 b430 g430 X430 e430 E430 A430 D430 => ?_
    have ne431 : b362 ≠ b430 := Nat.ne_of_lt (Nat.lt_of_lt_of_le f410.lt (Nat.le_of_eq g430.symm))
    have ge432 : n0 ≤ b430 := Nat.le_trans z427 (Nat.le_of_eq g430.symm)
    have f433 := f410.ext E430
    have f434 := f411.ext E430
    have f435 := f428.ext E430
    have f436 := f429.ext E430
    have z437 := Nat.le_trans z427 E430.1
    have f438 : Fld Z h430 b430 "com/example/portunus/portunus/Periods$Debt" "time" "J" (.long (0 : Int64)) := D430 (Or.inl (own_hw hw 70 rfl)) (ty := .long) (by decide)
    have f439 : Fld Z h430 b430 "com/example/portunus/portunus/Periods$Debt" "nanos" "J" (.long (0 : Int64)) := D430 (Or.inl (own_hw hw 77 rfl)) (ty := .long) (by decide)
    have f440 : Fld Z h430 b430 "com/example/portunus/portunus/Periods$Debt" "fraction" "I" (.int (0 : Int32)) := D430 (Or.inl (own_hw hw 87 rfl)) (ty := .int) (by decide)
    refine own_dup X430 hx 147 rfl (hb hby at_146) rfl ?_
    refine own_lloadN X430 hx 148 rfl (hb hby at_147) rfl ?_
    refine own_special X430 hx hZ (y := (⟨"com/example/portunus/portunus/Periods$Debt", "<init>", "(J)V"⟩ : MethodName)) hown rfl (own_hw hw 65 rfl) (own_hw hw 66 rfl) (a := b430) (by decide) rfl (rm_debt l Z a0 hw [] b430 j0 h430 n0 z437 A430 f438 f439 f440 ge432) (own_hw hw 67 rfl) (own_hw hw 64 rfl) (by decide) e430 (by rw [hml]; rfl) [(.long j0)] 1 (by decide) (Nat.le_of_eq rfl) (by decide) (by decide) (lenOf own_pd6 rfl) rfl rfl 151 rfl (hb hby at_148) fun v441 T441 Lc441 X441 hQ441 => ?_
    obtain ⟨rfl, Nq441, Kq441, f442, f443, f444, f445⟩ := hQ441
    have N446 := Fr.app N414 Nq441
    have f447 := f433.keep Kq441
    have f448 := f434.keep Kq441 (ninS ne431 nin0)
    have f449 := f435.keep Kq441 (ninS ne431 nin0)
    have f450 := f436.keep Kq441 (ninS ne431 nin0)
    have f451 := A430.keep Kq441
    have z455 := Nat.le_trans z437 Kq441.1
    show own_Go _ _ _ _ _ (State.setTop _ (mkF _ 151 _ [(.ref b430)]))
    refine own_astore X441 hx 153 rfl (hb hby at_151) rfl #[.val (.long j0), .second, .val (.int i1), .val (.long j2), .second, .val (.int i3), .val (.long j4), .second, .val (.int i5), .val (.int (own_n i1)), .val (.long (own_ms j2)), .second, .val (.long (own_w j2)), .second, .val (.int (own_k i1 i3)), .val (.long (own_q i1 j2)), .second, .val (.long (own_r i1 j2)), .second, .val (.long (own_c i1 j2 i3)), .second, .val (.long x), .second, .val (.ref b362), .val (.ref b430), .unset, .unset] rfl ?_
    refine own_iload X441 hx 155 rfl (hb hby at_153) rfl ?_
    refine own_iconst X441 hx 156 rfl (hb hby at_155) (1 : Int32) rfl ?_
    by_cases hc456 : (own_k i1 i3) < (1 : Int32)
    ·
      refine own_icmpYes X441 hx 166 (hb hby at_156) (tlt hc456).1 (by decide) rfl ?_
      refine own_iload X441 hx 168 rfl (hb hby at_166) rfl ?_
      refine own_iconst X441 hx 169 rfl (hb hby at_168) (2 : Int32) rfl ?_
      refine own_icmpYes X441 hx 179 (hb hby at_169) (tlt (own_ltk i1 (own_k0 i1 hc456))).1 (by decide) rfl ?_
      refine own_iload X441 hx 181 rfl (hb hby at_179) rfl ?_
      refine own_iconst X441 hx 182 rfl (hb hby at_181) (3 : Int32) rfl ?_
      refine own_icmpYes X441 hx 192 (hb hby at_182) (tlt (own_ltk i1 (own_k0 i1 hc456))).1 (by decide) rfl ?_
      refine own_aload X441 hx 194 rfl (hb hby at_192) rfl rfl ?_
      refine own_lloadN X441 hx 195 rfl (hb hby at_194) rfl ?_
      refine own_lload X441 hx 197 rfl (hb hby at_195) rfl ?_
      refine own_ladd X441 hx 198 rfl (hb hby at_197) _ rfl ?_
      by_cases hc457 : (0 : Int64) < x
      ·
        refine own_virtual X441 hx hZ (y := (⟨"com/example/portunus/portunus/Periods$Debt", "payOff", "(J)V"⟩ : MethodName)) (z := (⟨"com/example/portunus/portunus/Periods$Debt", "payOff", "(J)V"⟩ : MethodName)) hown (own_hw hw 71 rfl) (own_hw hw 72 rfl) (own_hw hw 74 rfl) (own_hw hw 73 rfl) rfl (a := b430) f442 (by decide) (rm_paygone l Z a0 hw [] b430 (j0 + x) j0 (0 : Int64) (0 : Int32) T441.heap n0 z455 f442 f443 f444 f445 ge432 (own_cuY (own_k0 i1 hc456) (own_s0 i1 j2) hx0 hc457)) (own_hw hw 75 rfl) (own_hw hw 64 rfl) (by decide) rfl (by rw [hml]; rfl) [(.long (j0 + x))] 0 (by decide) (Nat.le_of_eq rfl) (by decide) (by decide) (lenOf own_pd6 rfl) rfl rfl 201 rfl (hb hby at_198) fun v458 T458 Lc458 X458 hQ458 => ?_
        obtain ⟨rfl, Nq458, Kq458, f459, f460, f461, f462⟩ := hQ458
        have N463 := Fr.app N446 Nq458
        have f464 := f447.keep Kq458
        have f465 := f448.keep Kq458 (ninS ne431 nin0)
        have f466 := f449.keep Kq458 (ninS ne431 nin0)
        have f467 := f450.keep Kq458 (ninS ne431 nin0)
        have f468 := f442.keep Kq458
        have z472 := Nat.le_trans z455 Kq458.1
        show own_Go _ _ _ _ _ (State.setTop _ (mkF _ 201 _ []))
        refine own_lconst X458 hx 202 rfl (hb hby at_201) (0 : Int64) rfl ?_
        refine own_lload X458 hx 204 rfl (hb hby at_202) rfl ?_
        refine own_lload X458 hx 206 rfl (hb hby at_204) rfl ?_
        refine own_lsub X458 hx 207 rfl (hb hby at_206) _ rfl ?_
        refine own_callS X458 hx hZ (y := (⟨"java/lang/Math", "max", "(JJ)J"⟩ : MethodName)) hown (own_hw hw 88 rfl) (own_hw hw 89 rfl) (by decide) (rm_maxJ l Z a0 hw [] (0 : Int64) ((own_c i1 j2 i3) - x) (own_x (own_c i1 j2 i3) x) T458.heap n0 z472 rfl) (own_hw hw 90 rfl) (own_hw hw 3 rfl) (by decide) rfl (by rw [hml]; rfl) [(.long (0 : Int64)), (.long ((own_c i1 j2 i3) - x))] 0 (by decide) (Nat.le_of_eq rfl) (by decide) (by decide) (lenOf own_pd7 rfl) rfl rfl 210 rfl (hb hby at_207) fun v473 T473 Lc473 X473 hQ473 => ?_
        obtain ⟨rfl, Nq473, e473⟩ := hQ473
        have N474 := Fr.app N463 Nq473
        show own_Go _ _ _ _ _ (State.setTop _ (mkF _ 210 _ [(.long (own_x (own_c i1 j2 i3) x))]))
        refine own_lstore X473 hx 212 rfl (hb hby at_210) #[.val (.long j0), .second, .val (.int i1), .val (.long j2), .second, .val (.int i3), .val (.long j4), .second, .val (.int i5), .val (.int (own_n i1)), .val (.long (own_ms j2)), .second, .val (.long (own_w j2)), .second, .val (.int (own_k i1 i3)), .val (.long (own_q i1 j2)), .second, .val (.long (own_r i1 j2)), .second, .val (.long (own_c i1 j2 i3)), .second, .val (.long x), .second, .val (.ref b362), .val (.ref b430), .val (.long (own_x (own_c i1 j2 i3) x)), .second] rfl ?_
        refine own_aload X473 hx 214 rfl (hb hby at_212) rfl rfl ?_
        refine own_virtual X473 hx hZ (y := (⟨"com/example/portunus/portunus/Periods$Debt", "roundedUp", "()J"⟩ : MethodName)) (z := (⟨"com/example/portunus/portunus/Periods$Debt", "roundedUp", "()J"⟩ : MethodName)) hown (own_hw hw 91 rfl) (own_hw hw 92 rfl) (own_hw hw 94 rfl) (own_hw hw 93 rfl) rfl (a := b430) f459 (by decide) (rm_up l Z a0 hw [] b430 (0 : Int64) (0 : Int32) T458.heap n0 z472 f461 f462) (own_hw hw 95 rfl) (own_hw hw 64 rfl) (by decide) e473 (by rw [hml]; rfl) [] 0 (by decide) (Nat.le_of_eq rfl) (by decide) (by decide) (lenOf own_pd1 rfl) rfl rfl 217 rfl (hb hby at_214) fun v475 T475 Lc475 X475 hQ475 => ?_
        obtain ⟨rfl, Nq475, e475⟩ := hQ475
        have N476 := Fr.app N474 Nq475
        show own_Go _ _ _ _ _ (State.setTop _ (mkF _ 217 _ [(.long (own_up (0 : Int64) (0 : Int32)))]))
        refine own_lload X475 hx 219 rfl (hb hby at_217) rfl ?_
        refine own_lcmp X475 hx 220 rfl (hb hby at_219) _ rfl ?_
        refine own_ifNo X475 hx 223 rfl (hb hby at_220) ((if0 _ _).trans (teq ((lw_eq _ _).mpr (own_gone (own_k0 i1 hc456) (own_s0 i1 j2) (Int64.lt_iff_toInt_lt.mp hc457)))).2) ?_
        refine own_iconst X475 hx 224 rfl (hb hby at_223) (1 : Int32) rfl ?_
        refine own_goto X475 hx 228 (hb hby at_224) (by decide) rfl ?_
        refine own_ret X475 (some (.int (1 : Int32))) (fun h => by rw [Bd.returns] at h; cases h) Bd.notSynchronized (by decide) (by decide) ?_ (fun fs hr => retN X475 hx (t := .boolean) Bd.returns (by simp) (hb hby at_228) hr)
        show Q_rm0 Z j0 i1 j2 i3 j4 i5 ty h0 n0 _ T475.heap _
        rw [e475]
        exact ⟨rfl, N476⟩
      ·
        refine own_virtual X441 hx hZ (y := (⟨"com/example/portunus/portunus/Periods$Debt", "payOff", "(J)V"⟩ : MethodName)) (z := (⟨"com/example/portunus/portunus/Periods$Debt", "payOff", "(J)V"⟩ : MethodName)) hown (own_hw hw 71 rfl) (own_hw hw 72 rfl) (own_hw hw 74 rfl) (own_hw hw 73 rfl) rfl (a := b430) f442 (by decide) (rm_pay l Z a0 hw [] b430 (j0 + x) j0 (0 : Int64) (0 : Int32) T441.heap n0 z455 f442 f443 f444 f445 ge432 (own_cuN (own_k0 i1 hc456) (own_s0 i1 j2) hx0 hc457)) (own_hw hw 75 rfl) (own_hw hw 64 rfl) (by decide) rfl (by rw [hml]; rfl) [(.long (j0 + x))] 0 (by decide) (Nat.le_of_eq rfl) (by decide) (by decide) (lenOf own_pd6 rfl) rfl rfl 201 rfl (hb hby at_198) fun v477 T477 Lc477 X477 hQ477 => ?_
        obtain ⟨rfl, Nq477, Kq477, f478, f479, f480, f481⟩ := hQ477
        have N482 := Fr.app N446 Nq477
        have f483 := f447.keep Kq477
        have f484 := f448.keep Kq477 (ninS ne431 nin0)
        have f485 := f449.keep Kq477 (ninS ne431 nin0)
        have f486 := f450.keep Kq477 (ninS ne431 nin0)
        have f487 := f442.keep Kq477
        have z491 := Nat.le_trans z455 Kq477.1
        show own_Go _ _ _ _ _ (State.setTop _ (mkF _ 201 _ []))
        refine own_lconst X477 hx 202 rfl (hb hby at_201) (0 : Int64) rfl ?_
        refine own_lload X477 hx 204 rfl (hb hby at_202) rfl ?_
        refine own_lload X477 hx 206 rfl (hb hby at_204) rfl ?_
        refine own_lsub X477 hx 207 rfl (hb hby at_206) _ rfl ?_
        refine own_callS X477 hx hZ (y := (⟨"java/lang/Math", "max", "(JJ)J"⟩ : MethodName)) hown (own_hw hw 88 rfl) (own_hw hw 89 rfl) (by decide) (rm_maxJ l Z a0 hw [] (0 : Int64) ((own_c i1 j2 i3) - x) (own_x (own_c i1 j2 i3) x) T477.heap n0 z491 rfl) (own_hw hw 90 rfl) (own_hw hw 3 rfl) (by decide) rfl (by rw [hml]; rfl) [(.long (0 : Int64)), (.long ((own_c i1 j2 i3) - x))] 0 (by decide) (Nat.le_of_eq rfl) (by decide) (by decide) (lenOf own_pd7 rfl) rfl rfl 210 rfl (hb hby at_207) fun v492 T492 Lc492 X492 hQ492 => ?_
        obtain ⟨rfl, Nq492, e492⟩ := hQ492
        have N493 := Fr.app N482 Nq492
        show own_Go _ _ _ _ _ (State.setTop _ (mkF _ 210 _ [(.long (own_x (own_c i1 j2 i3) x))]))
        refine own_lstore X492 hx 212 rfl (hb hby at_210) #[.val (.long j0), .second, .val (.int i1), .val (.long j2), .second, .val (.int i3), .val (.long j4), .second, .val (.int i5), .val (.int (own_n i1)), .val (.long (own_ms j2)), .second, .val (.long (own_w j2)), .second, .val (.int (own_k i1 i3)), .val (.long (own_q i1 j2)), .second, .val (.long (own_r i1 j2)), .second, .val (.long (own_c i1 j2 i3)), .second, .val (.long x), .second, .val (.ref b362), .val (.ref b430), .val (.long (own_x (own_c i1 j2 i3) x)), .second] rfl ?_
        refine own_aload X492 hx 214 rfl (hb hby at_212) rfl rfl ?_
        refine own_virtual X492 hx hZ (y := (⟨"com/example/portunus/portunus/Periods$Debt", "roundedUp", "()J"⟩ : MethodName)) (z := (⟨"com/example/portunus/portunus/Periods$Debt", "roundedUp", "()J"⟩ : MethodName)) hown (own_hw hw 91 rfl) (own_hw hw 92 rfl) (own_hw hw 94 rfl) (own_hw hw 93 rfl) rfl (a := b430) f478 (by decide) (rm_up l Z a0 hw [] b430 ((0 : Int64) - ((j0 + x) - j0)) (0 : Int32) T477.heap n0 z491 f480 f481) (own_hw hw 95 rfl) (own_hw hw 64 rfl) (by decide) e492 (by rw [hml]; rfl) [] 0 (by decide) (Nat.le_of_eq rfl) (by decide) (by decide) (lenOf own_pd1 rfl) rfl rfl 217 rfl (hb hby at_214) fun v494 T494 Lc494 X494 hQ494 => ?_
        obtain ⟨rfl, Nq494, e494⟩ := hQ494
        have N495 := Fr.app N493 Nq494
        show own_Go _ _ _ _ _ (State.setTop _ (mkF _ 217 _ [(.long (own_up ((0 : Int64) - ((j0 + x) - j0)) (0 : Int32)))]))
        refine own_lload X494 hx 219 rfl (hb hby at_217) rfl ?_
        refine own_lcmp X494 hx 220 rfl (hb hby at_219) _ rfl ?_
        refine own_ifNo X494 hx 223 rfl (hb hby at_220) ((if0 _ _).trans (teq ((lw_eq _ _).mpr (own_left (own_k0 i1 hc456) (own_s0 i1 j2) hx0 (Int.not_lt.mp (fun z => hc457 (Int64.lt_iff_toInt_lt.mpr z)))))).2) ?_
        refine own_iconst X494 hx 224 rfl (hb hby at_223) (1 : Int32) rfl ?_
        refine own_goto X494 hx 228 (hb hby at_224) (by decide) rfl ?_
        refine own_ret X494 (some (.int (1 : Int32))) (fun h => by rw [Bd.returns] at h; cases h) Bd.notSynchronized (by decide) (by decide) ?_ (fun fs hr => retN X494 hx (t := .boolean) Bd.returns (by simp) (hb hby at_228) hr)
        show Q_rm0 Z j0 i1 j2 i3 j4 i5 ty h0 n0 _ T494.heap _
        rw [e494]
        exact ⟨rfl, N495⟩
    ·
      refine own_icmpNo X441 hx 159 rfl (hb hby at_156) (flt hc456).1 ?_
      refine own_aload X441 hx 161 rfl (hb hby at_159) rfl rfl ?_
      refine own_aload X441 hx 163 rfl (hb hby at_161) rfl rfl ?_
      refine own_virtual X441 hx hZ (y := (⟨"com/example/portunus/portunus/Periods", "addPeriod", "(Lcom/example/portunus/portunus/Periods$Debt;)V"⟩ : MethodName)) (z := (⟨"com/example/portunus/portunus/Periods", "addPeriod", "(Lcom/example/portunus/portunus/Periods$Debt;)V"⟩ : MethodName)) hown (own_hw hw 96 rfl) (own_hw hw 97 rfl) (own_hw hw 99 rfl) (own_hw hw 98 rfl) rfl (a := b362) f447 (by decide) (rm_addp l Z a0 hw [] b362 b430 (own_n i1) (own_q i1 j2) (own_r i1 j2) j0 (0 : Int64) (0 : Int32) T441.heap n0 z455 f448 f449 f450 f442 f443 f444 f445 ne431 ge432 (own_n64_nz i1)) (own_hw hw 100 rfl) (own_hw hw 13 rfl) (by decide) rfl (by rw [hml]; rfl) [(.ref b430)] 0 (by decide) (Nat.le_of_eq rfl) (by decide) (by decide) (lenOf own_pd8 rfl) rfl rfl 166 rfl (hb hby at_163) fun v496 T496 Lc496 X496 hQ496 => ?_
      obtain ⟨rfl, Nq496, Kq496, f497, f498, f499, f500⟩ := hQ496
      have N501 := Fr.app N446 Nq496
      have f502 := f447.keep Kq496
      have f503 := f448.keep Kq496 (ninS ne431 nin0)
      have f504 := f449.keep Kq496 (ninS ne431 nin0)
      have f505 := f450.keep Kq496 (ninS ne431 nin0)
      have f506 := f442.keep Kq496
      have z510 := Nat.le_trans z455 Kq496.1
      have f511 : Fld Z T496.heap b430 "com/example/portunus/portunus/Periods$Debt" "nanos" "J" (.long (own_a1 i1 j2)) := f499
      have f512 : Fld Z T496.heap b430 "com/example/portunus/portunus/Periods$Debt" "fraction" "I" (.int (own_f1 i1 j2)) := f500
      show own_Go _ _ _ _ _ (State.setTop _ (mkF _ 166 _ []))
      refine own_iload X496 hx 168 rfl (hb hby at_166) rfl ?_
      refine own_iconst X496 hx 169 rfl (hb hby at_168) (2 : Int32) rfl ?_
      by_cases hc513 : (own_k i1 i3) < (2 : Int32)
      ·
        refine own_icmpYes X496 hx 179 (hb hby at_169) (tlt hc513).1 (by decide) rfl ?_
        refine own_iload X496 hx 181 rfl (hb hby at_179) rfl ?_
        refine own_iconst X496 hx 182 rfl (hb hby at_181) (3 : Int32) rfl ?_
        refine own_icmpYes X496 hx 192 (hb hby at_182) (tlt (own_ltk i1 (own_k1 i1 hc456 hc513))).1 (by decide) rfl ?_
        refine own_aload X496 hx 194 rfl (hb hby at_192) rfl rfl ?_
        refine own_lloadN X496 hx 195 rfl (hb hby at_194) rfl ?_
        refine own_lload X496 hx 197 rfl (hb hby at_195) rfl ?_
        refine own_ladd X496 hx 198 rfl (hb hby at_197) _ rfl ?_
        by_cases hc514 : (own_a1 i1 j2) < x
        ·
          refine own_virtual X496 hx hZ (y := (⟨"com/example/portunus/portunus/Periods$Debt", "payOff", "(J)V"⟩ : MethodName)) (z := (⟨"com/example/portunus/portunus/Periods$Debt", "payOff", "(J)V"⟩ : MethodName)) hown (own_hw hw 71 rfl) (own_hw hw 72 rfl) (own_hw hw 74 rfl) (own_hw hw 73 rfl) rfl (a := b430) f497 (by decide) (rm_paygone l Z a0 hw [] b430 (j0 + x) j0 (own_a1 i1 j2) (own_f1 i1 j2) T496.heap n0 z510 f497 f498 f511 f512 ge432 (own_cuY (own_k1 i1 hc456 hc513) (own_s1 i1 j2 (own_kn i1 (own_k1 i1 hc456 hc513))) hx0 hc514)) (own_hw hw 75 rfl) (own_hw hw 64 rfl) (by decide) rfl (by rw [hml]; rfl) [(.long (j0 + x))] 0 (by decide) (Nat.le_of_eq rfl) (by decide) (by decide) (lenOf own_pd6 rfl) rfl rfl 201 rfl (hb hby at_198) fun v515 T515 Lc515 X515 hQ515 => ?_
          obtain ⟨rfl, Nq515, Kq515, f516, f517, f518, f519⟩ := hQ515
          have N520 := Fr.app N501 Nq515
          have f521 := f502.keep Kq515
          have f522 := f503.keep Kq515 (ninS ne431 nin0)
          have f523 := f504.keep Kq515 (ninS ne431 nin0)
          have f524 := f505.keep Kq515 (ninS ne431 nin0)
          have f525 := f497.keep Kq515
          have z529 := Nat.le_trans z510 Kq515.1
          show own_Go _ _ _ _ _ (State.setTop _ (mkF _ 201 _ []))
          refine own_lconst X515 hx 202 rfl (hb hby at_201) (0 : Int64) rfl ?_
          refine own_lload X515 hx 204 rfl (hb hby at_202) rfl ?_
          refine own_lload X515 hx 206 rfl (hb hby at_204) rfl ?_
          refine own_lsub X515 hx 207 rfl (hb hby at_206) _ rfl ?_
          refine own_callS X515 hx hZ (y := (⟨"java/lang/Math", "max", "(JJ)J"⟩ : MethodName)) hown (own_hw hw 88 rfl) (own_hw hw 89 rfl) (by decide) (rm_maxJ l Z a0 hw [] (0 : Int64) ((own_c i1 j2 i3) - x) (own_x (own_c i1 j2 i3) x) T515.heap n0 z529 rfl) (own_hw hw 90 rfl) (own_hw hw 3 rfl) (by decide) rfl (by rw [hml]; rfl) [(.long (0 : Int64)), (.long ((own_c i1 j2 i3) - x))] 0 (by decide) (Nat.le_of_eq rfl) (by decide) (by decide) (lenOf own_pd7 rfl) rfl rfl 210 rfl (hb hby at_207) fun v530 T530 Lc530 X530 hQ530 => ?_
          obtain ⟨rfl, Nq530, e530⟩ := hQ530
          have N531 := Fr.app N520 Nq530
          show own_Go _ _ _ _ _ (State.setTop _ (mkF _ 210 _ [(.long (own_x (own_c i1 j2 i3) x))]))
          refine own_lstore X530 hx 212 rfl (hb hby at_210) #[.val (.long j0), .second, .val (.int i1), .val (.long j2), .second, .val (.int i3), .val (.long j4), .second, .val (.int i5), .val (.int (own_n i1)), .val (.long (own_ms j2)), .second, .val (.long (own_w j2)), .second, .val (.int (own_k i1 i3)), .val (.long (own_q i1 j2)), .second, .val (.long (own_r i1 j2)), .second, .val (.long (own_c i1 j2 i3)), .second, .val (.long x), .second, .val (.ref b362), .val (.ref b430), .val (.long (own_x (own_c i1 j2 i3) x)), .second] rfl ?_
          refine own_aload X530 hx 214 rfl (hb hby at_212) rfl rfl ?_
          refine own_virtual X530 hx hZ (y := (⟨"com/example/portunus/portunus/Periods$Debt", "roundedUp", "()J"⟩ : MethodName)) (z := (⟨"com/example/portunus/portunus/Periods$Debt", "roundedUp", "()J"⟩ : MethodName)) hown (own_hw hw 91 rfl) (own_hw hw 92 rfl) (own_hw hw 94 rfl) (own_hw hw 93 rfl) rfl (a := b430) f516 (by decide) (rm_up l Z a0 hw [] b430 (0 : Int64) (0 : Int32) T515.heap n0 z529 f518 f519) (own_hw hw 95 rfl) (own_hw hw 64 rfl) (by decide) e530 (by rw [hml]; rfl) [] 0 (by decide) (Nat.le_of_eq rfl) (by decide) (by decide) (lenOf own_pd1 rfl) rfl rfl 217 rfl (hb hby at_214) fun v532 T532 Lc532 X532 hQ532 => ?_
          obtain ⟨rfl, Nq532, e532⟩ := hQ532
          have N533 := Fr.app N531 Nq532
          show own_Go _ _ _ _ _ (State.setTop _ (mkF _ 217 _ [(.long (own_up (0 : Int64) (0 : Int32)))]))
          refine own_lload X532 hx 219 rfl (hb hby at_217) rfl ?_
          refine own_lcmp X532 hx 220 rfl (hb hby at_219) _ rfl ?_
          refine own_ifNo X532 hx 223 rfl (hb hby at_220) ((if0 _ _).trans (teq ((lw_eq _ _).mpr (own_gone (own_k1 i1 hc456 hc513) (own_s1 i1 j2 (own_kn i1 (own_k1 i1 hc456 hc513))) (Int64.lt_iff_toInt_lt.mp hc514)))).2) ?_
          refine own_iconst X532 hx 224 rfl (hb hby at_223) (1 : Int32) rfl ?_
          refine own_goto X532 hx 228 (hb hby at_224) (by decide) rfl ?_
          refine own_ret X532 (some (.int (1 : Int32))) (fun h => by rw [Bd.returns] at h; cases h) Bd.notSynchronized (by decide) (by decide) ?_ (fun fs hr => retN X532 hx (t := .boolean) Bd.returns (by simp) (hb hby at_228) hr)
          show Q_rm0 Z j0 i1 j2 i3 j4 i5 ty h0 n0 _ T532.heap _
          rw [e532]
          exact ⟨rfl, N533⟩
        ·
          refine own_virtual X496 hx hZ (y := (⟨"com/example/portunus/portunus/Periods$Debt", "payOff", "(J)V"⟩ : MethodName)) (z := (⟨"com/example/portunus/portunus/Periods$Debt", "payOff", "(J)V"⟩ : MethodName)) hown (own_hw hw 71 rfl) (own_hw hw 72 rfl) (own_hw hw 74 rfl) (own_hw hw 73 rfl) rfl (a := b430) f497 (by decide) (rm_pay l Z a0 hw [] b430 (j0 + x) j0 (own_a1 i1 j2) (own_f1 i1 j2) T496.heap n0 z510 f497 f498 f511 f512 ge432 (own_cuN (own_k1 i1 hc456 hc513) (own_s1 i1 j2 (own_kn i1 (own_k1 i1 hc456 hc513))) hx0 hc514)) (own_hw hw 75 rfl) (own_hw hw 64 rfl) (by decide) rfl (by rw [hml]; rfl) [(.long (j0 + x))] 0 (by decide) (Nat.le_of_eq rfl) (by decide) (by decide) (lenOf own_pd6 rfl) rfl rfl 201 rfl (hb hby at_198) fun v534 T534 Lc534 X534 hQ534 => ?_
          obtain ⟨rfl, Nq534, Kq534, f535, f536, f537, f538⟩ := hQ534
          have N539 := Fr.app N501 Nq534
          have f540 := f502.keep Kq534
          have f541 := f503.keep Kq534 (ninS ne431 nin0)
          have f542 := f504.keep Kq534 (ninS ne431 nin0)
          have f543 := f505.keep Kq534 (ninS ne431 nin0)
          have f544 := f497.keep Kq534
          have z548 := Nat.le_trans z510 Kq534.1
          show own_Go _ _ _ _ _ (State.setTop _ (mkF _ 201 _ []))
          refine own_lconst X534 hx 202 rfl (hb hby at_201) (0 : Int64) rfl ?_
          refine own_lload X534 hx 204 rfl (hb hby at_202) rfl ?_
          refine own_lload X534 hx 206 rfl (hb hby at_204) rfl ?_
          refine own_lsub X534 hx 207 rfl (hb hby at_206) _ rfl ?_
          refine own_callS X534 hx hZ (y := (⟨"java/lang/Math", "max", "(JJ)J"⟩ : MethodName)) hown (own_hw hw 88 rfl) (own_hw hw 89 rfl) (by decide) (rm_maxJ l Z a0 hw [] (0 : Int64) ((own_c i1 j2 i3) - x) (own_x (own_c i1 j2 i3) x) T534.heap n0 z548 rfl) (own_hw hw 90 rfl) (own_hw hw 3 rfl) (by decide) rfl (by rw [hml]; rfl) [(.long (0 : Int64)), (.long ((own_c i1 j2 i3) - x))] 0 (by decide) (Nat.le_of_eq rfl) (by decide) (by decide) (lenOf own_pd7 rfl) rfl rfl 210 rfl (hb hby at_207) fun v549 T549 Lc549 X549 hQ549 => ?_
          obtain ⟨rfl, Nq549, e549⟩ := hQ549
          have N550 := Fr.app N539 Nq549
          show own_Go _ _ _ _ _ (State.setTop _ (mkF _ 210 _ [(.long (own_x (own_c i1 j2 i3) x))]))
          refine own_lstore X549 hx 212 rfl (hb hby at_210) #[.val (.long j0), .second, .val (.int i1), .val (.long j2), .second, .val (.int i3), .val (.long j4), .second, .val (.int i5), .val (.int (own_n i1)), .val (.long (own_ms j2)), .second, .val (.long (own_w j2)), .second, .val (.int (own_k i1 i3)), .val (.long (own_q i1 j2)), .second, .val (.long (own_r i1 j2)), .second, .val (.long (own_c i1 j2 i3)), .second, .val (.long x), .second, .val (.ref b362), .val (.ref b430), .val (.long (own_x (own_c i1 j2 i3) x)), .second] rfl ?_
          refine own_aload X549 hx 214 rfl (hb hby at_212) rfl rfl ?_
          refine own_virtual X549 hx hZ (y := (⟨"com/example/portunus/portunus/Periods$Debt", "roundedUp", "()J"⟩ : MethodName)) (z := (⟨"com/example/portunus/portunus/Periods$Debt", "roundedUp", "()J"⟩ : MethodName)) hown (own_hw hw 91 rfl) (own_hw hw 92 rfl) (own_hw hw 94 rfl) (own_hw hw 93 rfl) rfl (a := b430) f535 (by decide) (rm_up l Z a0 hw [] b430 ((own_a1 i1 j2) - ((j0 + x) - j0)) (own_f1 i1 j2) T534.heap n0 z548 f537 f538) (own_hw hw 95 rfl) (own_hw hw 64 rfl) (by decide) e549 (by rw [hml]; rfl) [] 0 (by decide) (Nat.le_of_eq rfl) (by decide) (by decide) (lenOf own_pd1 rfl) rfl rfl 217 rfl (hb hby at_214) fun v551 T551 Lc551 X551 hQ551 => ?_
          obtain ⟨rfl, Nq551, e551⟩ := hQ551
          have N552 := Fr.app N550 Nq551
          show own_Go _ _ _ _ _ (State.setTop _ (mkF _ 217 _ [(.long (own_up ((own_a1 i1 j2) - ((j0 + x) - j0)) (own_f1 i1 j2)))]))
          refine own_lload X551 hx 219 rfl (hb hby at_217) rfl ?_
          refine own_lcmp X551 hx 220 rfl (hb hby at_219) _ rfl ?_
          refine own_ifNo X551 hx 223 rfl (hb hby at_220) ((if0 _ _).trans (teq ((lw_eq _ _).mpr (own_left (own_k1 i1 hc456 hc513) (own_s1 i1 j2 (own_kn i1 (own_k1 i1 hc456 hc513))) hx0 (Int.not_lt.mp (fun z => hc514 (Int64.lt_iff_toInt_lt.mpr z)))))).2) ?_
          refine own_iconst X551 hx 224 rfl (hb hby at_223) (1 : Int32) rfl ?_
          refine own_goto X551 hx 228 (hb hby at_224) (by decide) rfl ?_
          refine own_ret X551 (some (.int (1 : Int32))) (fun h => by rw [Bd.returns] at h; cases h) Bd.notSynchronized (by decide) (by decide) ?_ (fun fs hr => retN X551 hx (t := .boolean) Bd.returns (by simp) (hb hby at_228) hr)
          show Q_rm0 Z j0 i1 j2 i3 j4 i5 ty h0 n0 _ T551.heap _
          rw [e551]
          exact ⟨rfl, N552⟩
      ·
        refine own_icmpNo X496 hx 172 rfl (hb hby at_169) (flt hc513).1 ?_
        refine own_aload X496 hx 174 rfl (hb hby at_172) rfl rfl ?_
        refine own_aload X496 hx 176 rfl (hb hby at_174) rfl rfl ?_
        refine own_virtual X496 hx hZ (y := (⟨"com/example/portunus/portunus/Periods", "addPeriod", "(Lcom/example/portunus/portunus/Periods$Debt;)V"⟩ : MethodName)) (z := (⟨"com/example/portunus/portunus/Periods", "addPeriod", "(Lcom/example/portunus/portunus/Periods$Debt;)V"⟩ : MethodName)) hown (own_hw hw 96 rfl) (own_hw hw 97 rfl) (own_hw hw 99 rfl) (own_hw hw 98 rfl) rfl (a := b362) f502 (by decide) (rm_addp l Z a0 hw [] b362 b430 (own_n i1) (own_q i1 j2) (own_r i1 j2) j0 (own_a1 i1 j2) (own_f1 i1 j2) T496.heap n0 z510 f503 f504 f505 f497 f498 f511 f512 ne431 ge432 (own_n64_nz i1)) (own_hw hw 100 rfl) (own_hw hw 13 rfl) (by decide) rfl (by rw [hml]; rfl) [(.ref b430)] 0 (by decide) (Nat.le_of_eq rfl) (by decide) (by decide) (lenOf own_pd8 rfl) rfl rfl 179 rfl (hb hby at_176) fun v553 T553 Lc553 X553 hQ553 => ?_
        obtain ⟨rfl, Nq553, Kq553, f554, f555, f556, f557⟩ := hQ553
        have N558 := Fr.app N501 Nq553
        have f559 := f502.keep Kq553
        have f560 := f503.keep Kq553 (ninS ne431 nin0)
        have f561 := f504.keep Kq553 (ninS ne431 nin0)
        have f562 := f505.keep Kq553 (ninS ne431 nin0)
        have f563 := f497.keep Kq553
        have z567 := Nat.le_trans z510 Kq553.1
        have f568 : Fld Z T553.heap b430 "com/example/portunus/portunus/Periods$Debt" "nanos" "J" (.long (own_a2 i1 j2)) := f556
        have f569 : Fld Z T553.heap b430 "com/example/portunus/portunus/Periods$Debt" "fraction" "I" (.int (own_f2 i1 j2)) := f557
        show own_Go _ _ _ _ _ (State.setTop _ (mkF _ 179 _ []))
        refine own_iload X553 hx 181 rfl (hb hby at_179) rfl ?_
        refine own_iconst X553 hx 182 rfl (hb hby at_181) (3 : Int32) rfl ?_
        by_cases hc570 : (own_k i1 i3) < (3 : Int32)
        ·
          refine own_icmpYes X553 hx 192 (hb hby at_182) (tlt hc570).1 (by decide) rfl ?_
          refine own_aload X553 hx 194 rfl (hb hby at_192) rfl rfl ?_
          refine own_lloadN X553 hx 195 rfl (hb hby at_194) rfl ?_
          refine own_lload X553 hx 197 rfl (hb hby at_195) rfl ?_
          refine own_ladd X553 hx 198 rfl (hb hby at_197) _ rfl ?_
          by_cases hc571 : (own_a2 i1 j2) < x
          ·
            refine own_virtual X553 hx hZ (y := (⟨"com/example/portunus/portunus/Periods$Debt", "payOff", "(J)V"⟩ : MethodName)) (z := (⟨"com/example/portunus/portunus/Periods$Debt", "payOff", "(J)V"⟩ : MethodName)) hown (own_hw hw 71 rfl) (own_hw hw 72 rfl) (own_hw hw 74 rfl) (own_hw hw 73 rfl) rfl (a := b430) f554 (by decide) (rm_paygone l Z a0 hw [] b430 (j0 + x) j0 (own_a2 i1 j2) (own_f2 i1 j2) T553.heap n0 z567 f554 f555 f568 f569 ge432 (own_cuY (own_k2 i1 hc513 hc570) (own_s2 i1 j2 (own_kn i1 (own_k2 i1 hc513 hc570))) hx0 hc571)) (own_hw hw 75 rfl) (own_hw hw 64 rfl) (by decide) rfl (by rw [hml]; rfl) [(.long (j0 + x))] 0 (by decide) (Nat.le_of_eq rfl) (by decide) (by decide) (lenOf own_pd6 rfl) rfl rfl 201 rfl (hb hby at_198) fun v572 T572 Lc572 X572 hQ572 => ?_
            obtain ⟨rfl, Nq572, Kq572, f573, f574, f575, f576⟩ := hQ572
            have N577 := Fr.app N558 Nq572
            have f578 := f559.keep Kq572
            have f579 := f560.keep Kq572 (ninS ne431 nin0)
            have f580 := f561.keep Kq572 (ninS ne431 nin0)
            have f581 := f562.keep Kq572 (ninS ne431 nin0)
            have f582 := f554.keep Kq572
            have z586 := Nat.le_trans z567 Kq572.1
            show own_Go _ _ _ _ _ (State.setTop _ (mkF _ 201 _ []))
            refine own_lconst X572 hx 202 rfl (hb hby at_201) (0 : Int64) rfl ?_
            refine own_lload X572 hx 204 rfl (hb hby at_202) rfl ?_
            refine own_lload X572 hx 206 rfl (hb hby at_204) rfl ?_
            refine own_lsub X572 hx 207 rfl (hb hby at_206) _ rfl ?_
            refine own_callS X572 hx hZ (y := (⟨"java/lang/Math", "max", "(JJ)J"⟩ : MethodName)) hown (own_hw hw 88 rfl) (own_hw hw 89 rfl) (by decide) (rm_maxJ l Z a0 hw [] (0 : Int64) ((own_c i1 j2 i3) - x) (own_x (own_c i1 j2 i3) x) T572.heap n0 z586 rfl) (own_hw hw 90 rfl) (own_hw hw 3 rfl) (by decide) rfl (by rw [hml]; rfl) [(.long (0 : Int64)), (.long ((own_c i1 j2 i3) - x))] 0 (by decide) (Nat.le_of_eq rfl) (by decide) (by decide) (lenOf own_pd7 rfl) rfl rfl 210 rfl (hb hby at_207) fun v587 T587 Lc587 X587 hQ587 => ?_
            obtain ⟨rfl, Nq587, e587⟩ := hQ587
            have N588 := Fr.app N577 Nq587
            show own_Go _ _ _ _ _ (State.setTop _ (mkF _ 210 _ [(.long (own_x (own_c i1 j2 i3) x))]))
            refine own_lstore X587 hx 212 rfl (hb hby at_210) #[.val (.long j0), .second, .val (.int i1), .val (.long j2), .second, .val (.int i3), .val (.long j4), .second, .val (.int i5), .val (.int (own_n i1)), .val (.long (own_ms j2)), .second, .val (.long (own_w j2)), .second, .val (.int (own_k i1 i3)), .val (.long (own_q i1 j2)), .second, .val (.long (own_r i1 j2)), .second, .val (.long (own_c i1 j2 i3)), .second, .val (.long x), .second, .val (.ref b362), .val (.ref b430), .val (.long (own_x (own_c i1 j2 i3) x)), .second] rfl ?_
            refine own_aload X587 hx 214 rfl (hb hby at_212) rfl rfl ?_
            refine own_virtual X587 hx hZ (y := (⟨"com/example/portunus/portunus/Periods$Debt", "roundedUp", "()J"⟩ : MethodName)) (z := (⟨"com/example/portunus/portunus/Periods$Debt", "roundedUp", "()J"⟩ : MethodName)) hown (own_hw hw 91 rfl) (own_hw hw 92 rfl) (own_hw hw 94 rfl) (own_hw hw 93 rfl) rfl (a := b430) f573 (by decide) (rm_up l Z a0 hw [] b430 (0 : Int64) (0 : Int32) T572.heap n0 z586 f575 f576) (own_hw hw 95 rfl) (own_hw hw 64 rfl) (by decide) e587 (by rw [hml]; rfl) [] 0 (by decide) (Nat.le_of_eq rfl) (by decide) (by decide) (lenOf own_pd1 rfl) rfl rfl 217 rfl (hb hby at_214) fun v589 T589 Lc589 X589 hQ589 => ?_
            obtain ⟨rfl, Nq589, e589⟩ := hQ589
            have N590 := Fr.app N588 Nq589
            show own_Go _ _ _ _ _ (State.setTop _ (mkF _ 217 _ [(.long (own_up (0 : Int64) (0 : Int32)))]))
            refine own_lload X589 hx 219 rfl (hb hby at_217) rfl ?_
            refine own_lcmp X589 hx 220 rfl (hb hby at_219) _ rfl ?_
            refine own_ifNo X589 hx 223 rfl (hb hby at_220) ((if0 _ _).trans (teq ((lw_eq _ _).mpr (own_gone (own_k2 i1 hc513 hc570) (own_s2 i1 j2 (own_kn i1 (own_k2 i1 hc513 hc570))) (Int64.lt_iff_toInt_lt.mp hc571)))).2) ?_
            refine own_iconst X589 hx 224 rfl (hb hby at_223) (1 : Int32) rfl ?_
            refine own_goto X589 hx 228 (hb hby at_224) (by decide) rfl ?_
            refine own_ret X589 (some (.int (1 : Int32))) (fun h => by rw [Bd.returns] at h; cases h) Bd.notSynchronized (by decide) (by decide) ?_ (fun fs hr => retN X589 hx (t := .boolean) Bd.returns (by simp) (hb hby at_228) hr)
            show Q_rm0 Z j0 i1 j2 i3 j4 i5 ty h0 n0 _ T589.heap _
            rw [e589]
            exact ⟨rfl, N590⟩
          ·
            refine own_virtual X553 hx hZ (y := (⟨"com/example/portunus/portunus/Periods$Debt", "payOff", "(J)V"⟩ : MethodName)) (z := (⟨"com/example/portunus/portunus/Periods$Debt", "payOff", "(J)V"⟩ : MethodName)) hown (own_hw hw 71 rfl) (own_hw hw 72 rfl) (own_hw hw 74 rfl) (own_hw hw 73 rfl) rfl (a := b430) f554 (by decide) (rm_pay l Z a0 hw [] b430 (j0 + x) j0 (own_a2 i1 j2) (own_f2 i1 j2) T553.heap n0 z567 f554 f555 f568 f569 ge432 (own_cuN (own_k2 i1 hc513 hc570) (own_s2 i1 j2 (own_kn i1 (own_k2 i1 hc513 hc570))) hx0 hc571)) (own_hw hw 75 rfl) (own_hw hw 64 rfl) (by decide) rfl (by rw [hml]; rfl) [(.long (j0 + x))] 0 (by decide) (Nat.le_of_eq rfl) (by decide) (by decide) (lenOf own_pd6 rfl) rfl rfl 201 rfl (hb hby at_198) fun v591 T591 Lc591 X591 hQ591 => ?_
            obtain ⟨rfl, Nq591, Kq591, f592, f593, f594, f595⟩ := hQ591
            have N596 := Fr.app N558 Nq591
            have f597 := f559.keep Kq591
            have f598 := f560.keep Kq591 (ninS ne431 nin0)
            have f599 := f561.keep Kq591 (ninS ne431 nin0)
            have f600 := f562.keep Kq591 (ninS ne431 nin0)
            have f601 := f554.keep Kq591
            have z605 := Nat.le_trans z567 Kq591.1
            show own_Go _ _ _ _ _ (State.setTop _ (mkF _ 201 _ []))
            refine own_lconst X591 hx 202 rfl (hb hby at_201) (0 : Int64) rfl ?_
            refine own_lload X591 hx 204 rfl (hb hby at_202) rfl ?_
            refine own_lload X591 hx 206 rfl (hb hby at_204) rfl ?_
            refine own_lsub X591 hx 207 rfl (hb hby at_206) _ rfl ?_
            refine own_callS X591 hx hZ (y := (⟨"java/lang/Math", "max", "(JJ)J"⟩ : MethodName)) hown (own_hw hw 88 rfl) (own_hw hw 89 rfl) (by decide) (rm_maxJ l Z a0 hw [] (0 : Int64) ((own_c i1 j2 i3) - x) (own_x (own_c i1 j2 i3) x) T591.heap n0 z605 rfl) (own_hw hw 90 rfl) (own_hw hw 3 rfl) (by decide) rfl (by rw [hml]; rfl) [(.long (0 : Int64)), (.long ((own_c i1 j2 i3) - x))] 0 (by decide) (Nat.le_of_eq rfl) (by decide) (by decide) (lenOf own_pd7 rfl) rfl rfl 210 rfl (hb hby at_207) fun v606 T606 Lc606 X606 hQ606 => ?_
            obtain ⟨rfl, Nq606, e606⟩ := hQ606
            have N607 := Fr.app N596 Nq606
            show own_Go _ _ _ _ _ (State.setTop _ (mkF _ 210 _ [(.long (own_x (own_c i1 j2 i3) x))]))
            refine own_lstore X606 hx 212 rfl (hb hby at_210) #[.val (.long j0), .second, .val (.int i1), .val (.long j2), .second, .val (.int i3), .val (.long j4), .second, .val (.int i5), .val (.int (own_n i1)), .val (.long (own_ms j2)), .second, .val (.long (own_w j2)), .second, .val (.int (own_k i1 i3)), .val (.long (own_q i1 j2)), .second, .val (.long (own_r i1 j2)), .second, .val (.long (own_c i1 j2 i3)), .second, .val (.long x), .second, .val (.ref b362), .val (.ref b430), .val (.long (own_x (own_c i1 j2 i3) x)), .second] rfl ?_
            refine own_aload X606 hx 214 rfl (hb hby at_212) rfl rfl ?_
            refine own_virtual X606 hx hZ (y := (⟨"com/example/portunus/portunus/Periods$Debt", "roundedUp", "()J"⟩ : MethodName)) (z := (⟨"com/example/portunus/portunus/Periods$Debt", "roundedUp", "()J"⟩ : MethodName)) hown (own_hw hw 91 rfl) (own_hw hw 92 rfl) (own_hw hw 94 rfl) (own_hw hw 93 rfl) rfl (a := b430) f592 (by decide) (rm_up l Z a0 hw [] b430 ((own_a2 i1 j2) - ((j0 + x) - j0)) (own_f2 i1 j2) T591.heap n0 z605 f594 f595) (own_hw hw 95 rfl) (own_hw hw 64 rfl) (by decide) e606 (by rw [hml]; rfl) [] 0 (by decide) (Nat.le_of_eq rfl) (by decide) (by decide) (lenOf own_pd1 rfl) rfl rfl 217 rfl (hb hby at_214) fun v608 T608 Lc608 X608 hQ608 => ?_
            obtain ⟨rfl, Nq608, e608⟩ := hQ608
            have N609 := Fr.app N607 Nq608
            show own_Go _ _ _ _ _ (State.setTop _ (mkF _ 217 _ [(.long (own_up ((own_a2 i1 j2) - ((j0 + x) - j0)) (own_f2 i1 j2)))]))
            refine own_lload X608 hx 219 rfl (hb hby at_217) rfl ?_
            refine own_lcmp X608 hx 220 rfl (hb hby at_219) _ rfl ?_
            refine own_ifNo X608 hx 223 rfl (hb hby at_220) ((if0 _ _).trans (teq ((lw_eq _ _).mpr (own_left (own_k2 i1 hc513 hc570) (own_s2 i1 j2 (own_kn i1 (own_k2 i1 hc513 hc570))) hx0 (Int.not_lt.mp (fun z => hc571 (Int64.lt_iff_toInt_lt.mpr z)))))).2) ?_
            refine own_iconst X608 hx 224 rfl (hb hby at_223) (1 : Int32) rfl ?_
            refine own_goto X608 hx 228 (hb hby at_224) (by decide) rfl ?_
            refine own_ret X608 (some (.int (1 : Int32))) (fun h => by rw [Bd.returns] at h; cases h) Bd.notSynchronized (by decide) (by decide) ?_ (fun fs hr => retN X608 hx (t := .boolean) Bd.returns (by simp) (hb hby at_228) hr)
            show Q_rm0 Z j0 i1 j2 i3 j4 i5 ty h0 n0 _ T608.heap _
            rw [e608]
            exact ⟨rfl, N609⟩
        ·
          refine own_icmpNo X553 hx 185 rfl (hb hby at_182) (flt hc570).1 ?_
          refine own_aload X553 hx 187 rfl (hb hby at_185) rfl rfl ?_
          refine own_aload X553 hx 189 rfl (hb hby at_187) rfl rfl ?_
          refine own_virtual X553 hx hZ (y := (⟨"com/example/portunus/portunus/Periods", "addPeriod", "(Lcom/example/portunus/portunus/Periods$Debt;)V"⟩ : MethodName)) (z := (⟨"com/example/portunus/portunus/Periods", "addPeriod", "(Lcom/example/portunus/portunus/Periods$Debt;)V"⟩ : MethodName)) hown (own_hw hw 96 rfl) (own_hw hw 97 rfl) (own_hw hw 99 rfl) (own_hw hw 98 rfl) rfl (a := b362) f559 (by decide) (rm_addp l Z a0 hw [] b362 b430 (own_n i1) (own_q i1 j2) (own_r i1 j2) j0 (own_a2 i1 j2) (own_f2 i1 j2) T553.heap n0 z567 f560 f561 f562 f554 f555 f568 f569 ne431 ge432 (own_n64_nz i1)) (own_hw hw 100 rfl) (own_hw hw 13 rfl) (by decide) rfl (by rw [hml]; rfl) [(.ref b430)] 0 (by decide) (Nat.le_of_eq rfl) (by decide) (by decide) (lenOf own_pd8 rfl) rfl rfl 192 rfl (hb hby at_189) fun v610 T610 Lc610 X610 hQ610 => ?_
          obtain ⟨rfl, Nq610, Kq610, f611, f612, f613, f614⟩ := hQ610
          have N615 := Fr.app N558 Nq610
          have f616 := f559.keep Kq610
          have f617 := f560.keep Kq610 (ninS ne431 nin0)
          have f618 := f561.keep Kq610 (ninS ne431 nin0)
          have f619 := f562.keep Kq610 (ninS ne431 nin0)
          have f620 := f554.keep Kq610
          have z624 := Nat.le_trans z567 Kq610.1
          have f625 : Fld Z T610.heap b430 "com/example/portunus/portunus/Periods$Debt" "nanos" "J" (.long (own_a3 i1 j2)) := f613
          have f626 : Fld Z T610.heap b430 "com/example/portunus/portunus/Periods$Debt" "fraction" "I" (.int (own_f3 i1 j2)) := f614
          show own_Go _ _ _ _ _ (State.setTop _ (mkF _ 192 _ []))
          refine own_aload X610 hx 194 rfl (hb hby at_192) rfl rfl ?_
          refine own_lloadN X610 hx 195 rfl (hb hby at_194) rfl ?_
          refine own_lload X610 hx 197 rfl (hb hby at_195) rfl ?_
          refine own_ladd X610 hx 198 rfl (hb hby at_197) _ rfl ?_
          by_cases hc627 : (own_a3 i1 j2) < x
          ·
            refine own_virtual X610 hx hZ (y := (⟨"com/example/portunus/portunus/Periods$Debt", "payOff", "(J)V"⟩ : MethodName)) (z := (⟨"com/example/portunus/portunus/Periods$Debt", "payOff", "(J)V"⟩ : MethodName)) hown (own_hw hw 71 rfl) (own_hw hw 72 rfl) (own_hw hw 74 rfl) (own_hw hw 73 rfl) rfl (a := b430) f611 (by decide) (rm_paygone l Z a0 hw [] b430 (j0 + x) j0 (own_a3 i1 j2) (own_f3 i1 j2) T610.heap n0 z624 f611 f612 f625 f626 ge432 (own_cuY (own_k3 i1 hc570) (own_s3 i1 j2 (own_kn i1 (own_k3 i1 hc570))) hx0 hc627)) (own_hw hw 75 rfl) (own_hw hw 64 rfl) (by decide) rfl (by rw [hml]; rfl) [(.long (j0 + x))] 0 (by decide) (Nat.le_of_eq rfl) (by decide) (by decide) (lenOf own_pd6 rfl) rfl rfl 201 rfl (hb hby at_198) fun v628 T628 Lc628 X628 hQ628 => ?_
            obtain ⟨rfl, Nq628, Kq628, f629, f630, f631, f632⟩ := hQ628
            have N633 := Fr.app N615 Nq628
            have f634 := f616.keep Kq628
            have f635 := f617.keep Kq628 (ninS ne431 nin0)
            have f636 := f618.keep Kq628 (ninS ne431 nin0)
            have f637 := f619.keep Kq628 (ninS ne431 nin0)
            have f638 := f611.keep Kq628
            have z642 := Nat.le_trans z624 Kq628.1
            show own_Go _ _ _ _ _ (State.setTop _ (mkF _ 201 _ []))
            refine own_lconst X628 hx 202 rfl (hb hby at_201) (0 : Int64) rfl ?_
            refine own_lload X628 hx 204 rfl (hb hby at_202) rfl ?_
            refine own_lload X628 hx 206 rfl (hb hby at_204) rfl ?_
            refine own_lsub X628 hx 207 rfl (hb hby at_206) _ rfl ?_
            refine own_callS X628 hx hZ (y := (⟨"java/lang/Math", "max", "(JJ)J"⟩ : MethodName)) hown (own_hw hw 88 rfl) (own_hw hw 89 rfl) (by decide) (rm_maxJ l Z a0 hw [] (0 : Int64) ((own_c i1 j2 i3) - x) (own_x (own_c i1 j2 i3) x) T628.heap n0 z642 rfl) (own_hw hw 90 rfl) (own_hw hw 3 rfl) (by decide) rfl (by rw [hml]; rfl) [(.long (0 : Int64)), (.long ((own_c i1 j2 i3) - x))] 0 (by decide) (Nat.le_of_eq rfl) (by decide) (by decide) (lenOf own_pd7 rfl) rfl rfl 210 rfl (hb hby at_207) fun v643 T643 Lc643 X643 hQ643 => ?_
            obtain ⟨rfl, Nq643, e643⟩ := hQ643
            have N644 := Fr.app N633 Nq643
            show own_Go _ _ _ _ _ (State.setTop _ (mkF _ 210 _ [(.long (own_x (own_c i1 j2 i3) x))]))
            refine own_lstore X643 hx 212 rfl (hb hby at_210) #[.val (.long j0), .second, .val (.int i1), .val (.long j2), .second, .val (.int i3), .val (.long j4), .second, .val (.int i5), .val (.int (own_n i1)), .val (.long (own_ms j2)), .second, .val (.long (own_w j2)), .second, .val (.int (own_k i1 i3)), .val (.long (own_q i1 j2)), .second, .val (.long (own_r i1 j2)), .second, .val (.long (own_c i1 j2 i3)), .second, .val (.long x), .second, .val (.ref b362), .val (.ref b430), .val (.long (own_x (own_c i1 j2 i3) x)), .second] rfl ?_
            refine own_aload X643 hx 214 rfl (hb hby at_212) rfl rfl ?_
            refine own_virtual X643 hx hZ (y := (⟨"com/example/portunus/portunus/Periods$Debt", "roundedUp", "()J"⟩ : MethodName)) (z := (⟨"com/example/portunus/portunus/Periods$Debt", "roundedUp", "()J"⟩ : MethodName)) hown (own_hw hw 91 rfl) (own_hw hw 92 rfl) (own_hw hw 94 rfl) (own_hw hw 93 rfl) rfl (a := b430) f629 (by decide) (rm_up l Z a0 hw [] b430 (0 : Int64) (0 : Int32) T628.heap n0 z642 f631 f632) (own_hw hw 95 rfl) (own_hw hw 64 rfl) (by decide) e643 (by rw [hml]; rfl) [] 0 (by decide) (Nat.le_of_eq rfl) (by decide) (by decide) (lenOf own_pd1 rfl) rfl rfl 217 rfl (hb hby at_214) fun v645 T645 Lc645 X645 hQ645 => ?_
            obtain ⟨rfl, Nq645, e645⟩ := hQ645
            have N646 := Fr.app N644 Nq645
            show own_Go _ _ _ _ _ (State.setTop _ (mkF _ 217 _ [(.long (own_up (0 : Int64) (0 : Int32)))]))
            refine own_lload X645 hx 219 rfl (hb hby at_217) rfl ?_
            refine own_lcmp X645 hx 220 rfl (hb hby at_219) _ rfl ?_
            refine own_ifNo X645 hx 223 rfl (hb hby at_220) ((if0 _ _).trans (teq ((lw_eq _ _).mpr (own_gone (own_k3 i1 hc570) (own_s3 i1 j2 (own_kn i1 (own_k3 i1 hc570))) (Int64.lt_iff_toInt_lt.mp hc627)))).2) ?_
            refine own_iconst X645 hx 224 rfl (hb hby at_223) (1 : Int32) rfl ?_
            refine own_goto X645 hx 228 (hb hby at_224) (by decide) rfl ?_
            refine own_ret X645 (some (.int (1 : Int32))) (fun h => by rw [Bd.returns] at h; cases h) Bd.notSynchronized (by decide) (by decide) ?_ (fun fs hr => retN X645 hx (t := .boolean) Bd.returns (by simp) (hb hby at_228) hr)
            show Q_rm0 Z j0 i1 j2 i3 j4 i5 ty h0 n0 _ T645.heap _
            rw [e645]
            exact ⟨rfl, N646⟩
          ·
            refine own_virtual X610 hx hZ (y := (⟨"com/example/portunus/portunus/Periods$Debt", "payOff", "(J)V"⟩ : MethodName)) (z := (⟨"com/example/portunus/portunus/Periods$Debt", "payOff", "(J)V"⟩ : MethodName)) hown (own_hw hw 71 rfl) (own_hw hw 72 rfl) (own_hw hw 74 rfl) (own_hw hw 73 rfl) rfl (a := b430) f611 (by decide) (rm_pay l Z a0 hw [] b430 (j0 + x) j0 (own_a3 i1 j2) (own_f3 i1 j2) T610.heap n0 z624 f611 f612 f625 f626 ge432 (own_cuN (own_k3 i1 hc570) (own_s3 i1 j2 (own_kn i1 (own_k3 i1 hc570))) hx0 hc627)) (own_hw hw 75 rfl) (own_hw hw 64 rfl) (by decide) rfl (by rw [hml]; rfl) [(.long (j0 + x))] 0 (by decide) (Nat.le_of_eq rfl) (by decide) (by decide) (lenOf own_pd6 rfl) rfl rfl 201 rfl (hb hby at_198) fun v647 T647 Lc647 X647 hQ647 => ?_
            obtain ⟨rfl, Nq647, Kq647, f648, f649, f650, f651⟩ := hQ647
            have N652 := Fr.app N615 Nq647
            have f653 := f616.keep Kq647
            have f654 := f617.keep Kq647 (ninS ne431 nin0)
            have f655 := f618.keep Kq647 (ninS ne431 nin0)
            have f656 := f619.keep Kq647 (ninS ne431 nin0)
            have f657 := f611.keep Kq647
            have z661 := Nat.le_trans z624 Kq647.1
            show own_Go _ _ _ _ _ (State.setTop _ (mkF _ 201 _ []))
            refine own_lconst X647 hx 202 rfl (hb hby at_201) (0 : Int64) rfl ?_
            refine own_lload X647 hx 204 rfl (hb hby at_202) rfl ?_
            refine own_lload X647 hx 206 rfl (hb hby at_204) rfl ?_
            refine own_lsub X647 hx 207 rfl (hb hby at_206) _ rfl ?_
            refine own_callS X647 hx hZ (y := (⟨"java/lang/Math", "max", "(JJ)J"⟩ : MethodName)) hown (own_hw hw 88 rfl) (own_hw hw 89 rfl) (by decide) (rm_maxJ l Z a0 hw [] (0 : Int64) ((own_c i1 j2 i3) - x) (own_x (own_c i1 j2 i3) x) T647.heap n0 z661 rfl) (own_hw hw 90 rfl) (own_hw hw 3 rfl) (by decide) rfl (by rw [hml]; rfl) [(.long (0 : Int64)), (.long ((own_c i1 j2 i3) - x))] 0 (by decide) (Nat.le_of_eq rfl) (by decide) (by decide) (lenOf own_pd7 rfl) rfl rfl 210 rfl (hb hby at_207) fun v662 T662 Lc662 X662 hQ662 => ?_
            obtain ⟨rfl, Nq662, e662⟩ := hQ662
            have N663 := Fr.app N652 Nq662
            show own_Go _ _ _ _ _ (State.setTop _ (mkF _ 210 _ [(.long (own_x (own_c i1 j2 i3) x))]))
            refine own_lstore X662 hx 212 rfl (hb hby at_210) #[.val (.long j0), .second, .val (.int i1), .val (.long j2), .second, .val (.int i3), .val (.long j4), .second, .val (.int i5), .val (.int (own_n i1)), .val (.long (own_ms j2)), .second, .val (.long (own_w j2)), .second, .val (.int (own_k i1 i3)), .val (.long (own_q i1 j2)), .second, .val (.long (own_r i1 j2)), .second, .val (.long (own_c i1 j2 i3)), .second, .val (.long x), .second, .val (.ref b362), .val (.ref b430), .val (.long (own_x (own_c i1 j2 i3) x)), .second] rfl ?_
            refine own_aload X662 hx 214 rfl (hb hby at_212) rfl rfl ?_
            refine own_virtual X662 hx hZ (y := (⟨"com/example/portunus/portunus/Periods$Debt", "roundedUp", "()J"⟩ : MethodName)) (z := (⟨"com/example/portunus/portunus/Periods$Debt", "roundedUp", "()J"⟩ : MethodName)) hown (own_hw hw 91 rfl) (own_hw hw 92 rfl) (own_hw hw 94 rfl) (own_hw hw 93 rfl) rfl (a := b430) f648 (by decide) (rm_up l Z a0 hw [] b430 ((own_a3 i1 j2) - ((j0 + x) - j0)) (own_f3 i1 j2) T647.heap n0 z661 f650 f651) (own_hw hw 95 rfl) (own_hw hw 64 rfl) (by decide) e662 (by rw [hml]; rfl) [] 0 (by decide) (Nat.le_of_eq rfl) (by decide) (by decide) (lenOf own_pd1 rfl) rfl rfl 217 rfl (hb hby at_214) fun v664 T664 Lc664 X664 hQ664 => ?_
            obtain ⟨rfl, Nq664, e664⟩ := hQ664
            have N665 := Fr.app N663 Nq664
            show own_Go _ _ _ _ _ (State.setTop _ (mkF _ 217 _ [(.long (own_up ((own_a3 i1 j2) - ((j0 + x) - j0)) (own_f3 i1 j2)))]))
            refine own_lload X664 hx 219 rfl (hb hby at_217) rfl ?_
            refine own_lcmp X664 hx 220 rfl (hb hby at_219) _ rfl ?_
            refine own_ifNo X664 hx 223 rfl (hb hby at_220) ((if0 _ _).trans (teq ((lw_eq _ _).mpr (own_left (own_k3 i1 hc570) (own_s3 i1 j2 (own_kn i1 (own_k3 i1 hc570))) hx0 (Int.not_lt.mp (fun z => hc627 (Int64.lt_iff_toInt_lt.mpr z)))))).2) ?_
            refine own_iconst X664 hx 224 rfl (hb hby at_223) (1 : Int32) rfl ?_
            refine own_goto X664 hx 228 (hb hby at_224) (by decide) rfl ?_
            refine own_ret X664 (some (.int (1 : Int32))) (fun h => by rw [Bd.returns] at h; cases h) Bd.notSynchronized (by decide) (by decide) ?_ (fun fs hr => retN X664 hx (t := .boolean) Bd.returns (by simp) (hb hby at_228) hr)
            show Q_rm0 Z j0 i1 j2 i3 j4 i5 ty h0 n0 _ T664.heap _
            rw [e664]
            exact ⟨rfl, N665⟩
  show own_Go _ _ _ _ _ (State.setTop _ (mkF _ 83 #[.val (.long j0), .second, .val (.int i1), .val (.long j2), .second, .val (.int i3), .val (.long j4), .second, .val (.int i5), .val (.int (own_n i1)), .val (.long (own_ms j2)), .second, .val (.long (own_w j2)), .second, .val (.int (own_k i1 i3)), .val (.long (own_q i1 j2)), .second, .val (.long (own_r i1 j2)), .second, .val (.long (own_c i1 j2 i3)), .second, .unset, .unset, .unset, .unset, .unset, .unset] []))
  refine own_iload X360 hx 85 rfl (hb hby at_83) rfl ?_
  refine own_iconst X360 hx 86 rfl (hb hby at_85) (1 : Int32) rfl ?_
  refine own_iand X360 hx 87 rfl (hb hby at_86) _ rfl ?_
  by_cases hc666 : (i5 &&& (1 : Int32)) = (0 : Int32)
  ·
    refine own_ifYes X360 hx 101 (hb hby at_87) ((if0 _ _).trans (teq hc666).1) (by decide) rfl ?_
    refine own_lconst X360 hx 102 rfl (hb hby at_101) (0 : Int64) rfl ?_
    refine own_lload X360 hx 104 rfl (hb hby at_102) rfl ?_
    refine own_lload X360 hx 106 rfl (hb hby at_104) rfl ?_
    refine own_ldcJ X360 hx hZ hown (own_hw hw 103 rfl) 109 rfl (hb hby at_106) ?_
    refine own_land X360 hx 110 rfl (hb hby at_109) _ rfl ?_
    refine own_ldcJ X360 hx hZ hown (own_hw hw 104 rfl) 113 rfl (hb hby at_110) ?_
    refine own_lsub X360 hx 114 rfl (hb hby at_113) _ rfl ?_
    refine own_ladd X360 hx 115 rfl (hb hby at_114) _ rfl ?_
    refine own_callS X360 hx hZ (y := (⟨"java/lang/Math", "max", "(JJ)J"⟩ : MethodName)) hown (own_hw hw 88 rfl) (own_hw hw 89 rfl) (by decide) (rm_maxJ l Z a0 hw [] (0 : Int64) ((own_c i1 j2 i3) + ((j4 &&& (15 : Int64)) - (8 : Int64))) (own_e0 i1 j2 i3 j4) h0 n0 Z0 rfl) (own_hw hw 90 rfl) (own_hw hw 3 rfl) (by decide) e360 (by rw [hml]; rfl) [(.long (0 : Int64)), (.long ((own_c i1 j2 i3) + ((j4 &&& (15 : Int64)) - (8 : Int64))))] 0 (by decide) (Nat.le_of_eq rfl) (by decide) (by decide) (lenOf own_pd7 rfl) rfl rfl 118 rfl (hb hby at_115) fun v667 T667 Lc667 X667 hQ667 => ?_
    obtain ⟨rfl, Nq667, e667⟩ := hQ667
    have N668 := Fr.app N361 Nq667
    show own_Go _ _ _ _ _ (State.setTop _ (mkF _ 118 _ [(.long (own_e0 i1 j2 i3 j4))]))
    refine own_lstore X667 hx 120 rfl (hb hby at_118) #[.val (.long j0), .second, .val (.int i1), .val (.long j2), .second, .val (.int i3), .val (.long j4), .second, .val (.int i5), .val (.int (own_n i1)), .val (.long (own_ms j2)), .second, .val (.long (own_w j2)), .second, .val (.int (own_k i1 i3)), .val (.long (own_q i1 j2)), .second, .val (.long (own_r i1 j2)), .second, .val (.long (own_c i1 j2 i3)), .second, .val (.long (own_e0 i1 j2 i3 j4)), .second, .unset, .unset, .unset, .unset] rfl ?_
    exact J120 T667 _ X667 e667 N668 _ (own_e0_ge i1 j2 i3 j4)
  ·
    refine own_ifNo X360 hx 90 rfl (hb hby at_87) ((if0 _ _).trans (feq hc666).1) ?_
    refine own_lload X360 hx 92 rfl (hb hby at_90) rfl ?_
    refine own_ldcJ X360 hx hZ hown (own_hw hw 5 rfl) 95 rfl (hb hby at_92) ?_
    refine own_land X360 hx 96 rfl (hb hby at_95) _ rfl ?_
    refine own_lstore X360 hx 98 rfl (hb hby at_96) #[.val (.long j0), .second, .val (.int i1), .val (.long j2), .second, .val (.int i3), .val (.long j4), .second, .val (.int i5), .val (.int (own_n i1)), .val (.long (own_ms j2)), .second, .val (.long (own_w j2)), .second, .val (.int (own_k i1 i3)), .val (.long (own_q i1 j2)), .second, .val (.long (own_r i1 j2)), .second, .val (.long (own_c i1 j2 i3)), .second, .val (.long (j4 &&& (9223372036854775807 : Int64))), .second, .unset, .unset, .unset, .unset] rfl ?_
    refine own_goto X360 hx 120 (hb hby at_98) (by decide) rfl ?_
    exact J120 T360 _ X360 e360 N361 _ (own_e1_ge j4)
set_option maxRecDepth 65536 in
set_option maxHeartbeats 40000000 in
theorem comes_1 {Post : Tables → Env → Array Value → State → Outcome → State → Prop} (hpost : ∀ tb e args s v u, (limb_1_1.after args s (.returned v) u = true ∧ limb_1_2.after args s (.returned v) u = true ∧ True) → FrameEnd s (.returned v) u (Jvm.fieldLocs frame_1_writes args s ++ Jvm.arrayLocs frame_1_arrays args s ++ Jvm.staticLocs frame_1_statics s) 16 128 → Post tb e args s (.returned v) u) :
    ArmFor flags0 classFile x code maxLocals ret World_1 tables_1 room_1 Calls_1 rest_1 Pre_1 Post := by
  intro l hfl _ _ p e ha hc hk s m args below hf hA hF happ hP
  obtain ⟨hcalls, hrest, hpre⟩ := hP
  obtain ⟨-, -, -, hnamed, -, -, -, hat⟩ := (Spec.applies_iff hf).mp happ
  obtain ⟨hg, hn⟩ := and_e (Cond.before_iff.mp (show (Jvm.Cond.and given_1 narrow_1).before args s = true from hpre))
  obtain ⟨hcount, hg1⟩ := and_e hg
  obtain ⟨ha0, hgr0⟩ := and_e hg1
  obtain ⟨ha1, hgr1⟩ := and_e hgr0
  obtain ⟨ha2, hgr2⟩ := and_e hgr1
  obtain ⟨ha3, hgr3⟩ := and_e hgr2
  obtain ⟨ha4, hgr4⟩ := and_e hgr3
  obtain ⟨w0, w1, w2, w3, w4, w5, rfl⟩ : ∃ w0 w1 w2 w3 w4 w5 : Value, args = #[w0, w1, w2, w3, w4, w5] := by
    have hs : args.size = 6 := by simpa [Cond.value, given_1] using hcount
    obtain ⟨L⟩ := args
    match L, hs with
    | [w0, w1, w2, w3, w4, w5], _ => exact ⟨w0, w1, w2, w3, w4, w5, rfl⟩
  have hw := fun d (hd : d ∈ tables_1) => atoms_spec (ws := Jvm.Cond.code x code maxLocals ret :: tables_1) hat d (List.mem_cons_of_mem _ hd)
  have hfit : Fit s := fun {y c} hc i hi => by
    obtain ⟨ha, rfl⟩ := Array.getElem?_eq_some_iff.mp hc
    have q := List.all_eq_true.mp ((Array.all_eq_true_iff_forall_mem.mp hF) _ (Array.getElem_mem ha)) i (List.mem_range.mpr hi)
    simpa [Array.getElem?_eq_getElem hi] using q
  obtain ⟨i0, ei0⟩ := isL_v ha0
  obtain rfl : w0 = (.long i0) := Option.some.inj ei0
  obtain ⟨i1, ei1⟩ := is_v ha1
  obtain rfl : w1 = (.int i1) := Option.some.inj ei1
  obtain ⟨i2, ei2⟩ := isL_v ha2
  obtain rfl : w2 = (.long i2) := Option.some.inj ei2
  obtain ⟨i3, ei3⟩ := is_v ha3
  obtain rfl : w3 = (.int i3) := Option.some.inj ei3
  obtain ⟨i4, ei4⟩ := isL_v ha4
  obtain rfl : w4 = (.long i4) := Option.some.inj ei4
  obtain ⟨i5, ei5⟩ := is_v hgr4
  obtain rfl : w5 = (.int i5) := Option.some.inj ei5
  obtain ⟨ty, ety⟩ := exa_v hn
  obtain ⟨n, o, h1, h2, h3, _, L, rfl, ⟨rfl, N⟩, hq⟩ := rm0 l s _ hw tables_1 i0 i1 i2 i3 i4 i5 ty s.heap s.heap.size (Nat.le_refl _) (Sta.start ety (Or.inr ⟨(own_hw hw 18 rfl), (own_hw hw 19 rfl)⟩)) p e ha hc hk s m _ below hf ((Spec.applies_iff_loose hf).mp happ).1 ⟨rfl, State.Warmed39.refl s, rfl⟩ trivial
  refine ⟨n, _, h1, h2, h3, hpost _ _ _ _ _ _ ⟨Cond.after_iff.mpr rfl, Cond.after_iff.mpr (eq_i res_at (Term.int_eval (1)) rfl), trivial⟩ ⟨hq.1, hq.2.1, (hq.2.2.sift fun y hy => Or.inr (N y hy)).mono (by decide) (by decide)⟩⟩
theorem main_1_1 : Claimed_1_1 := comes_1 fun _ _ _ _ _ _ h hF => ⟨h.1, hF⟩
theorem main_1_2 : Claimed_1_2 := comes_1 fun _ _ _ _ _ _ h hF => ⟨h.2.1, hF⟩
end Jvm.Pilot.@@N@@
namespace Jvm.Pilot.@@N@@
open Jvm Jvm.ClassFile Sem Op Lib Jvm.Free Jvm.Stand Jvm.Pilot.@@N@@.Jvm.D
/-! MADE BY PROGRAM (witnessworld.py) out of the Statement's table words and the real class files: 19 classes; the members and pool entries that the words name. The judged class is class 1, her method 1. -/
namespace start1
open Jvm.ClassFile
def u (s : String) : CpInfo := .utf8 (stringToUtf16 s)
/-- a pool by its gaps: so many unusable entries, then the entry; so many at the end -/
def gap : Nat → List CpInfo → List CpInfo
  | 0, r => r
  | n + 1, r => .unusable :: gap n r
def poolList (es : List (Nat × CpInfo)) (last : Nat) : List CpInfo := es.foldr (fun e r => gap e.1 (e.2 :: r)) (gap last [])
def pool (es : List (Nat × CpInfo)) (last : Nat) : Array CpInfo := ⟨poolList es last⟩
def fileOf (pool : Array CpInfo) (this : Nat) (attrs : Array Attribute := #[]) (ms : Array MethodInfo := #[]) (fl : Nat := 33) (sup : Nat := 0) (ifs : Array Nat := #[]) (fds : Array FieldInfo := #[]) : ClassFile where
  minorVersion := 0
  majorVersion := 65
  constantPool := pool
  accessFlags := fl
  thisClass := this
  superClass := sup
  interfaces := ifs
  fields := fds
  methods := ms
  attributes := attrs
def plain (name : String) (sup : Option ClassId) : Class where
  name := name
  kind := .ordinary
  loader := none
  accessFlags := 33
  super := sup
  interfaces := #[]
  cf := none
  fields := #[]
  methods := #[]
  instanceTypes := #[]
  staticTypes := #[]
  resolved := #[]
  callSites := []
  init := .initialized
  statics := none
  mirror := none

def pool0 : Array CpInfo := pool [(5, u "<init>"), (0, u "()V"), (1, .class_ 10), (1, u "java/lang/Object")] 113

def k0c0 : Code := { maxStack := 0, maxLocals := 1, code := object_method_1_code, exceptionTable := #[], attributes := #[] }
def k0m0 : Method := { name := "<init>", desc := "()V", sig := { parameters := [], returnType := none }, accessFlags := 1, code := some k0c0 }
/-- java/lang/Object -/
def k0 : Class := { plain "java/lang/Object" none with
  accessFlags := 33
  interfaces := #[]
  cf := some (fileOf pool0 8 #[] #[{ accessFlags := 1, nameIndex := 5, descriptorIndex := 6, attributes := #[] }] 33 0 #[] #[])
  fields := #[]
  methods := #[k0m0]
  instanceTypes := #[]
  staticTypes := #[]
  resolved := Array.replicate 124 none
  statics := none }

def pool1 : Array CpInfo := pool [(2, .class_ 4), (1, u "java/lang/Object"), (0, u "<init>"), (0, u "()V"), (0, .integer 2147483647), (0, .methodref 9 10), (0, .class_ 11), (0, .nameAndType 12 13), (0, u "java/lang/Math"), (0, u "max"), (0, u "(II)I"), (2, .long 9223372036854775807), (1, .long 9223372036854), (1, .long 1000000), (1, .methodref 9 23), (0, .nameAndType 24 13), (0, u "min"), (0, .long 15), (1, .long 8), (1, .methodref 9 30), (0, .nameAndType 12 31), (0, u "(JJ)J"), (0, .class_ 33), (0, u "com/example/portunus/portunus/Periods"), (0, .class_ 35), (0, u "com/example/portunus/portunus/RateLimiterConfig"), (0, .fieldref 37 38), (0, .class_ 39), (0, .nameAndType 40 41), (0, u "com/example/portunus/portunus/RateLimiterType"), (0, u "TOKEN_BUCKET"), (0, u "Lcom/example/portunus/portunus/RateLimiterType;"), (0, .methodref 34 43), (0, .nameAndType 5 44), (0, u "(IJLcom/example/portunus/portunus/RateLimiterType;)V"), (0, .methodref 32 46), (0, .nameAndType 5 47), (0, u "(Lcom/example/portunus/portunus/RateLimiterConfig;)V"), (0, .class_ 49), (0, u "com/example/portunus/portunus/Periods$Debt"), (0, .methodref 48 51), (0, .nameAndType 5 52), (0, u "(J)V"), (0, .methodref 32 54), (0, .nameAndType 55 56), (0, u "addPeriod"), (0, u "(Lcom/example/portunus/portunus/Periods$Debt;)V"), (0, .methodref 48 58), (0, .nameAndType 59 52), (0, u "payOff"), (0, .methodref 48 61), (0, .nameAndType 62 63), (0, u "roundedUp"), (0, u "()J"), (0, .class_ 65), (0, u "com/example/portunus/portunus/DebtRoundedUpPinLaw"), (2, u "law"), (0, u "(JIJIJI)Z")] 5

def k1m0 : Method := { name := "<init>", desc := "()V", sig := { parameters := [], returnType := none }, accessFlags := 1, code := none }
def k1c1 : Code := { maxStack := 8, maxLocals := 27, code := code, exceptionTable := #[], attributes := #[] }
def k1m1 : Method := { name := "law", desc := "(JIJIJI)Z", sig := { parameters := [.long, .int, .long, .int, .long, .int], returnType := some .boolean }, accessFlags := 9, code := some k1c1 }
/-- com/example/portunus/portunus/DebtRoundedUpPinLaw -/
def k1 : Class := { plain "com/example/portunus/portunus/DebtRoundedUpPinLaw" (some 0) with
  accessFlags := 49
  interfaces := #[]
  cf := some (fileOf pool1 64 #[] #[{ accessFlags := 1, nameIndex := 5, descriptorIndex := 6, attributes := #[] }, { accessFlags := 9, nameIndex := 68, descriptorIndex := 69, attributes := #[] }] 49 2 #[] #[])
  fields := #[]
  methods := #[k1m0, k1m1]
  instanceTypes := #[]
  staticTypes := #[]
  resolved := Array.replicate 75 none
  statics := none }

def pool2 : Array CpInfo := pool [(1, .class_ 2), (0, u "java/lang/Math"), (1, .class_ 6), (1, u "java/lang/Object"), (0, u "<init>"), (0, u "()V"), (89, .class_ 100), (1, u "java/lang/Math$RandomNumberGeneratorHolder"), (20, u "(JJ)J"), (50, u "negativeZeroFloatBits"), (0, u "J"), (2, u "negativeZeroDoubleBits"), (21, u "max"), (2, u "min"), (43, u "$assertionsDisabled"), (0, u "Z"), (88, u "(II)I"), (2, u "twoToTheDoubleScaleDown"), (0, u "D"), (4, u "twoToTheDoubleScaleUp"), (9, u "E"), (3, u "PI"), (2, u "TAU"), (2, u "DEGREES_TO_RADIANS"), (0, u "RADIANS_TO_DEGREES")] 94

def k2m0 : Method := { name := "<init>", desc := "()V", sig := { parameters := [], returnType := none }, accessFlags := 2, code := none }
def k2c1 : Code := { maxStack := 2, maxLocals := 2, code := jdk_29_method_65_code, exceptionTable := #[], attributes := #[] }
def k2m1 : Method := { name := "max", desc := "(II)I", sig := { parameters := [.int, .int], returnType := some .int }, accessFlags := 9, code := some k2c1 }
def k2c2 : Code := { maxStack := 4, maxLocals := 4, code := jdk_29_method_66_code, exceptionTable := #[], attributes := #[] }
def k2m2 : Method := { name := "max", desc := "(JJ)J", sig := { parameters := [.long, .long], returnType := some .long }, accessFlags := 9, code := some k2c2 }
def k2c3 : Code := { maxStack := 2, maxLocals := 2, code := jdk_29_method_69_code, exceptionTable := #[], attributes := #[] }
def k2m3 : Method := { name := "min", desc := "(II)I", sig := { parameters := [.int, .int], returnType := some .int }, accessFlags := 9, code := some k2c3 }
/-- java/lang/Math -/
def k2 : Class := { plain "java/lang/Math" (some 0) with
  accessFlags := 49
  interfaces := #[]
  cf := some (fileOf pool2 1 #[.nestMembers #[98]] #[{ accessFlags := 2, nameIndex := 7, descriptorIndex := 8, attributes := #[] }, { accessFlags := 9, nameIndex := 198, descriptorIndex := 335, attributes := #[] }, { accessFlags := 9, nameIndex := 198, descriptorIndex := 121, attributes := #[] }, { accessFlags := 9, nameIndex := 201, descriptorIndex := 335, attributes := #[] }] 49 4 #[] #[{ accessFlags := 25, nameIndex := 354, descriptorIndex := 339, attributes := #[] }, { accessFlags := 25, nameIndex := 358, descriptorIndex := 339, attributes := #[] }, { accessFlags := 25, nameIndex := 361, descriptorIndex := 339, attributes := #[] }, { accessFlags := 26, nameIndex := 364, descriptorIndex := 339, attributes := #[] }, { accessFlags := 26, nameIndex := 365, descriptorIndex := 339, attributes := #[] }, { accessFlags := 26, nameIndex := 172, descriptorIndex := 173, attributes := #[] }, { accessFlags := 26, nameIndex := 176, descriptorIndex := 173, attributes := #[] }, { accessFlags := 8, nameIndex := 344, descriptorIndex := 339, attributes := #[] }, { accessFlags := 8, nameIndex := 338, descriptorIndex := 339, attributes := #[] }, { accessFlags := 4120, nameIndex := 245, descriptorIndex := 246, attributes := #[] }])
  fields := #[{ name := "E", type := .double, accessFlags := 25, slot := 0, constantValue := 0 }, { name := "PI", type := .double, accessFlags := 25, slot := 1, constantValue := 0 }, { name := "TAU", type := .double, accessFlags := 25, slot := 2, constantValue := 0 }, { name := "DEGREES_TO_RADIANS", type := .double, accessFlags := 26, slot := 3, constantValue := 0 }, { name := "RADIANS_TO_DEGREES", type := .double, accessFlags := 26, slot := 4, constantValue := 0 }, { name := "negativeZeroFloatBits", type := .long, accessFlags := 26, slot := 5, constantValue := 0 }, { name := "negativeZeroDoubleBits", type := .long, accessFlags := 26, slot := 6, constantValue := 0 }, { name := "twoToTheDoubleScaleUp", type := .double, accessFlags := 8, slot := 7, constantValue := 0 }, { name := "twoToTheDoubleScaleDown", type := .double, accessFlags := 8, slot := 8, constantValue := 0 }, { name := "$assertionsDisabled", type := .boolean, accessFlags := 4120, slot := 9, constantValue := 0 }]
  methods := #[k2m0, k2m1, k2m2, k2m3]
  instanceTypes := #[]
  staticTypes := #[.double, .double, .double, .double, .double, .long, .long, .double, .double, .boolean]
  resolved := Array.replicate 460 none
  statics := none }

def pool3 : Array CpInfo := pool [(1, .methodref 2 3), (0, .class_ 4), (0, .nameAndType 5 6), (0, u "java/lang/Object"), (0, u "<init>"), (0, u "()V"), (0, .methodref 8 9), (0, .class_ 10), (0, .nameAndType 11 12), (0, u "com/example/portunus/portunus/RateLimiterConfig"), (0, u "getMaxRequests"), (0, u "()I"), (0, .fieldref 14 15), (0, .class_ 16), (0, .nameAndType 17 18), (0, u "com/example/portunus/portunus/Periods"), (0, u "maxRequests"), (0, u "I"), (0, .methodref 8 20), (0, .nameAndType 21 22), (0, u "getTimeWindowNanos"), (0, u "()J"), (0, .fieldref 14 24), (0, .nameAndType 25 26), (0, u "windowNanos"), (0, u "J"), (0, .fieldref 14 28), (0, .nameAndType 29 26), (0, u "periodNanos"), (0, .fieldref 14 31), (0, .nameAndType 32 26), (0, u "periodFraction"), (0, .fieldref 14 34), (0, .nameAndType 35 36), (0, u "periodForGuesses"), (0, u "D"), (0, .fieldref 14 38), (0, .nameAndType 39 26), (0, u "roomMarkNanos"), (0, .fieldref 14 41), (0, .nameAndType 42 26), (0, u "roomMarkFraction"), (0, .fieldref 44 45), (0, .class_ 46), (0, .nameAndType 47 26), (0, u "com/example/portunus/portunus/Periods$Debt"), (0, u "nanos"), (0, .fieldref 44 49), (0, .nameAndType 50 18), (0, u "fraction"), (13, u "(Lcom/example/portunus/portunus/RateLimiterConfig;)V"), (5, u "addPeriod"), (0, u "(Lcom/example/portunus/portunus/Periods$Debt;)V")] 7

def k3c0 : Code := { maxStack := 5, maxLocals := 2, code := prog_16_method_1_code, exceptionTable := #[], attributes := #[] }
def k3m0 : Method := { name := "<init>", desc := "(Lcom/example/portunus/portunus/RateLimiterConfig;)V", sig := { parameters := [(.object "com/example/portunus/portunus/RateLimiterConfig")], returnType := none }, accessFlags := 0, code := some k3c0 }
def k3c1 : Code := { maxStack := 9, maxLocals := 4, code := prog_16_method_3_code, exceptionTable := #[], attributes := #[] }
def k3m1 : Method := { name := "addPeriod", desc := "(Lcom/example/portunus/portunus/Periods$Debt;)V", sig := { parameters := [(.object "com/example/portunus/portunus/Periods$Debt")], returnType := none }, accessFlags := 0, code := some k3c1 }
/-- com/example/portunus/portunus/Periods -/
def k3 : Class := { plain "com/example/portunus/portunus/Periods" (some 0) with
  accessFlags := 32
  interfaces := #[]
  cf := some (fileOf pool3 14 #[.nestMembers #[44]] #[{ accessFlags := 0, nameIndex := 5, descriptorIndex := 64, attributes := #[] }, { accessFlags := 0, nameIndex := 70, descriptorIndex := 71, attributes := #[] }] 32 2 #[] #[{ accessFlags := 18, nameIndex := 17, descriptorIndex := 18, attributes := #[] }, { accessFlags := 18, nameIndex := 25, descriptorIndex := 26, attributes := #[] }, { accessFlags := 18, nameIndex := 29, descriptorIndex := 26, attributes := #[] }, { accessFlags := 18, nameIndex := 32, descriptorIndex := 26, attributes := #[] }, { accessFlags := 18, nameIndex := 35, descriptorIndex := 36, attributes := #[] }, { accessFlags := 18, nameIndex := 39, descriptorIndex := 26, attributes := #[] }, { accessFlags := 18, nameIndex := 42, descriptorIndex := 26, attributes := #[] }])
  fields := #[{ name := "maxRequests", type := .int, accessFlags := 18, slot := 0, constantValue := 0 }, { name := "windowNanos", type := .long, accessFlags := 18, slot := 1, constantValue := 0 }, { name := "periodNanos", type := .long, accessFlags := 18, slot := 2, constantValue := 0 }, { name := "periodFraction", type := .long, accessFlags := 18, slot := 3, constantValue := 0 }, { name := "periodForGuesses", type := .double, accessFlags := 18, slot := 4, constantValue := 0 }, { name := "roomMarkNanos", type := .long, accessFlags := 18, slot := 5, constantValue := 0 }, { name := "roomMarkFraction", type := .long, accessFlags := 18, slot := 6, constantValue := 0 }]
  methods := #[k3m0, k3m1]
  instanceTypes := #[.int, .long, .long, .long, .double, .long, .long]
  staticTypes := #[]
  resolved := ((Array.replicate 79 none).setIfInBounds 43 (some (.field 10 1))).setIfInBounds 48 (some (.field 10 2))
  statics := none }

def pool4 : Array CpInfo := pool [(1, .methodref 2 3), (0, .class_ 4), (0, .nameAndType 5 6), (0, u "java/lang/Object"), (0, u "<init>"), (0, u "()V"), (14, .class_ 22), (0, u "com/example/portunus/portunus/RateLimiterConfig"), (0, .long 9223372036854), (4, .fieldref 21 29), (0, .nameAndType 30 31), (0, u "maxRequests"), (0, u "I"), (0, .fieldref 21 33), (0, .nameAndType 34 35), (0, u "timeWindowMillis"), (0, u "J"), (0, .fieldref 21 37), (0, .nameAndType 38 39), (0, u "type"), (0, u "Lcom/example/portunus/portunus/RateLimiterType;"), (0, .long 1000000), (1, u "NANOS_PER_MILLI"), (1, u "(IJLcom/example/portunus/portunus/RateLimiterType;)V"), (5, u "getMaxRequests"), (0, u "()I"), (1, u "()J"), (0, u "getTimeWindowNanos")] 23

def k4c0 : Code := { maxStack := 4, maxLocals := 5, code := prog_22_method_1_code, exceptionTable := #[], attributes := #[] }
def k4m0 : Method := { name := "<init>", desc := "(IJLcom/example/portunus/portunus/RateLimiterType;)V", sig := { parameters := [.int, .long, (.object "com/example/portunus/portunus/RateLimiterType")], returnType := none }, accessFlags := 1, code := some k4c0 }
def k4c1 : Code := { maxStack := 1, maxLocals := 1, code := prog_22_method_2_code, exceptionTable := #[], attributes := #[] }
def k4m1 : Method := { name := "getMaxRequests", desc := "()I", sig := { parameters := [], returnType := some .int }, accessFlags := 1, code := some k4c1 }
def k4c2 : Code := { maxStack := 4, maxLocals := 1, code := prog_22_method_4_code, exceptionTable := #[], attributes := #[] }
def k4m2 : Method := { name := "getTimeWindowNanos", desc := "()J", sig := { parameters := [], returnType := some .long }, accessFlags := 0, code := some k4c2 }
/-- com/example/portunus/portunus/RateLimiterConfig -/
def k4 : Class := { plain "com/example/portunus/portunus/RateLimiterConfig" (some 0) with
  accessFlags := 33
  interfaces := #[]
  cf := some (fileOf pool4 21 #[] #[{ accessFlags := 1, nameIndex := 5, descriptorIndex := 44, attributes := #[] }, { accessFlags := 1, nameIndex := 50, descriptorIndex := 51, attributes := #[] }, { accessFlags := 0, nameIndex := 54, descriptorIndex := 53, attributes := #[] }] 33 2 #[] #[{ accessFlags := 26, nameIndex := 42, descriptorIndex := 35, attributes := #[] }, { accessFlags := 18, nameIndex := 30, descriptorIndex := 31, attributes := #[] }, { accessFlags := 18, nameIndex := 34, descriptorIndex := 35, attributes := #[] }, { accessFlags := 18, nameIndex := 38, descriptorIndex := 39, attributes := #[] }])
  fields := #[{ name := "NANOS_PER_MILLI", type := .long, accessFlags := 26, slot := 0, constantValue := 0 }, { name := "maxRequests", type := .int, accessFlags := 18, slot := 0, constantValue := 0 }, { name := "timeWindowMillis", type := .long, accessFlags := 18, slot := 1, constantValue := 0 }, { name := "type", type := (.object "com/example/portunus/portunus/RateLimiterType"), accessFlags := 18, slot := 2, constantValue := 0 }]
  methods := #[k4m0, k4m1, k4m2]
  instanceTypes := #[.int, .long, (.object "com/example/portunus/portunus/RateLimiterType")]
  staticTypes := #[.long]
  resolved := Array.replicate 78 none
  statics := none }

def pool5 : Array CpInfo := pool [(1, .class_ 2), (0, u "java/lang/constant/Constable"), (0, .class_ 4), (0, u "java/lang/Object")] 6

/-- java/lang/constant/Constable -/
def k5 : Class := { plain "java/lang/constant/Constable" (some 0) with
  accessFlags := 1537
  interfaces := #[]
  cf := some (fileOf pool5 1 #[] #[] 1537 3 #[] #[])
  fields := #[]
  methods := #[]
  instanceTypes := #[]
  staticTypes := #[]
  resolved := Array.replicate 11 none
  statics := none }

def pool6 : Array CpInfo := pool [(1, .class_ 2), (0, u "java/lang/Comparable"), (0, .class_ 4), (0, u "java/lang/Object")] 7

/-- java/lang/Comparable -/
def k6 : Class := { plain "java/lang/Comparable" (some 0) with
  accessFlags := 1537
  interfaces := #[]
  cf := some (fileOf pool6 1 #[] #[] 1537 3 #[] #[])
  fields := #[]
  methods := #[]
  instanceTypes := #[]
  staticTypes := #[]
  resolved := Array.replicate 12 none
  statics := none }

def pool7 : Array CpInfo := pool [(1, .class_ 2), (0, u "java/io/Serializable"), (0, .class_ 4), (0, u "java/lang/Object")] 2

/-- java/io/Serializable -/
def k7 : Class := { plain "java/io/Serializable" (some 0) with
  accessFlags := 1537
  interfaces := #[]
  cf := some (fileOf pool7 1 #[] #[] 1537 3 #[] #[])
  fields := #[]
  methods := #[]
  instanceTypes := #[]
  staticTypes := #[]
  resolved := Array.replicate 7 none
  statics := none }

def pool8 : Array CpInfo := pool [(2, .class_ 4), (1, u "java/lang/Enum"), (0, u "name"), (0, u "Ljava/lang/String;"), (2, u "ordinal"), (0, u "I"), (1, .class_ 14), (1, u "java/lang/Object"), (4, u "hash"), (86, .class_ 108), (1, u "java/lang/Enum$EnumDesc"), (2, .class_ 112), (0, u "java/lang/constant/Constable"), (0, .class_ 114), (0, u "java/lang/Comparable"), (0, .class_ 116), (0, u "java/io/Serializable")] 87

/-- java/lang/Enum -/
def k8 : Class := { plain "java/lang/Enum" (some 0) with
  accessFlags := 1057
  interfaces := #[5, 6, 7]
  cf := some (fileOf pool8 2 #[.nestMembers #[106]] #[] 1057 12 #[111, 113, 115] #[{ accessFlags := 18, nameIndex := 5, descriptorIndex := 6, attributes := #[] }, { accessFlags := 18, nameIndex := 9, descriptorIndex := 10, attributes := #[] }, { accessFlags := 2, nameIndex := 19, descriptorIndex := 10, attributes := #[] }])
  fields := #[{ name := "name", type := (.object "java/lang/String"), accessFlags := 18, slot := 0, constantValue := 0 }, { name := "ordinal", type := .int, accessFlags := 18, slot := 1, constantValue := 0 }, { name := "hash", type := .int, accessFlags := 2, slot := 2, constantValue := 0 }]
  methods := #[]
  instanceTypes := #[(.object "java/lang/String"), .int, .int]
  staticTypes := #[]
  resolved := Array.replicate 204 none
  statics := none }

def pool9 : Array CpInfo := pool [(1, .class_ 2), (0, u "com/example/portunus/portunus/RateLimiterType"), (2, u "TOKEN_BUCKET"), (0, u "Lcom/example/portunus/portunus/RateLimiterType;"), (2, u "LEAKY_BUCKET"), (2, u "FIXED_WINDOW"), (2, u "SLIDING_WINDOW_LOG"), (2, u "SLIDING_WINDOW_COUNTER"), (2, u "$VALUES"), (0, u "[Lcom/example/portunus/portunus/RateLimiterType;"), (6, .class_ 31), (1, u "java/lang/Enum")] 27

/-- com/example/portunus/portunus/RateLimiterType -/
def k9 : Class := { plain "com/example/portunus/portunus/RateLimiterType" (some 8) with
  accessFlags := 16433
  interfaces := #[]
  cf := some (fileOf pool9 1 #[] #[] 16433 29 #[] #[{ accessFlags := 16409, nameIndex := 5, descriptorIndex := 6, attributes := #[] }, { accessFlags := 16409, nameIndex := 9, descriptorIndex := 6, attributes := #[] }, { accessFlags := 16409, nameIndex := 12, descriptorIndex := 6, attributes := #[] }, { accessFlags := 16409, nameIndex := 15, descriptorIndex := 6, attributes := #[] }, { accessFlags := 16409, nameIndex := 18, descriptorIndex := 6, attributes := #[] }, { accessFlags := 4122, nameIndex := 21, descriptorIndex := 22, attributes := #[] }])
  fields := #[{ name := "TOKEN_BUCKET", type := (.object "com/example/portunus/portunus/RateLimiterType"), accessFlags := 16409, slot := 0, constantValue := 0 }, { name := "LEAKY_BUCKET", type := (.object "com/example/portunus/portunus/RateLimiterType"), accessFlags := 16409, slot := 1, constantValue := 0 }, { name := "FIXED_WINDOW", type := (.object "com/example/portunus/portunus/RateLimiterType"), accessFlags := 16409, slot := 2, constantValue := 0 }, { name := "SLIDING_WINDOW_LOG", type := (.object "com/example/portunus/portunus/RateLimiterType"), accessFlags := 16409, slot := 3, constantValue := 0 }, { name := "SLIDING_WINDOW_COUNTER", type := (.object "com/example/portunus/portunus/RateLimiterType"), accessFlags := 16409, slot := 4, constantValue := 0 }, { name := "$VALUES", type := (.array (.object "com/example/portunus/portunus/RateLimiterType")), accessFlags := 4122, slot := 5, constantValue := 0 }]
  methods := #[]
  instanceTypes := #[(.object "java/lang/String"), .int, .int]
  staticTypes := #[(.object "com/example/portunus/portunus/RateLimiterType"), (.object "com/example/portunus/portunus/RateLimiterType"), (.object "com/example/portunus/portunus/RateLimiterType"), (.object "com/example/portunus/portunus/RateLimiterType"), (.object "com/example/portunus/portunus/RateLimiterType"), (.array (.object "com/example/portunus/portunus/RateLimiterType"))]
  resolved := Array.replicate 59 none
  statics := some 0 }

def pool10 : Array CpInfo := pool [(1, .methodref 2 3), (0, .class_ 4), (0, .nameAndType 5 6), (0, u "java/lang/Object"), (0, u "<init>"), (0, u "()V"), (0, .fieldref 8 9), (0, .class_ 10), (0, .nameAndType 11 12), (0, u "com/example/portunus/portunus/Periods$Debt"), (0, u "time"), (0, u "J"), (0, .fieldref 8 14), (0, .nameAndType 15 12), (0, u "nanos"), (0, .methodref 17 18), (0, .class_ 19), (0, .nameAndType 20 21), (0, u "java/lang/Long"), (0, u "compareUnsigned"), (0, u "(JJ)I"), (0, .fieldref 8 23), (0, .nameAndType 24 25), (0, u "fraction"), (0, u "I"), (0, u "(J)V"), (2, u "payOff"), (3, u "roundedUp"), (0, u "()J"), (3, .class_ 39), (0, u "com/example/portunus/portunus/Periods")] 2

def k10c0 : Code := { maxStack := 3, maxLocals := 3, code := prog_17_method_1_code, exceptionTable := #[], attributes := #[] }
def k10m0 : Method := { name := "<init>", desc := "(J)V", sig := { parameters := [.long], returnType := none }, accessFlags := 0, code := some k10c0 }
def k10c1 : Code := { maxStack := 5, maxLocals := 5, code := prog_17_method_2_code, exceptionTable := #[], attributes := #[] }
def k10m1 : Method := { name := "payOff", desc := "(J)V", sig := { parameters := [.long], returnType := none }, accessFlags := 0, code := some k10c1 }
def k10c2 : Code := { maxStack := 4, maxLocals := 1, code := prog_17_method_4_code, exceptionTable := #[], attributes := #[] }
def k10m2 : Method := { name := "roundedUp", desc := "()J", sig := { parameters := [], returnType := some .long }, accessFlags := 0, code := some k10c2 }
/-- com/example/portunus/portunus/Periods$Debt -/
def k10 : Class := { plain "com/example/portunus/portunus/Periods$Debt" (some 0) with
  accessFlags := 32
  interfaces := #[]
  cf := some (fileOf pool10 8 #[.nestHost 38] #[{ accessFlags := 0, nameIndex := 5, descriptorIndex := 26, attributes := #[] }, { accessFlags := 0, nameIndex := 29, descriptorIndex := 26, attributes := #[] }, { accessFlags := 0, nameIndex := 33, descriptorIndex := 34, attributes := #[] }] 32 2 #[] #[{ accessFlags := 2, nameIndex := 11, descriptorIndex := 12, attributes := #[] }, { accessFlags := 2, nameIndex := 15, descriptorIndex := 12, attributes := #[] }, { accessFlags := 2, nameIndex := 24, descriptorIndex := 25, attributes := #[] }])
  fields := #[{ name := "time", type := .long, accessFlags := 2, slot := 0, constantValue := 0 }, { name := "nanos", type := .long, accessFlags := 2, slot := 1, constantValue := 0 }, { name := "fraction", type := .int, accessFlags := 2, slot := 2, constantValue := 0 }]
  methods := #[k10m0, k10m1, k10m2]
  instanceTypes := #[.long, .long, .int]
  staticTypes := #[]
  resolved := Array.replicate 42 none
  statics := none }

def pool11 : Array CpInfo := pool [(2, .class_ 4), (1, u "java/lang/Object"), (0, u "<init>"), (0, u "()V"), (1, .class_ 10), (1, u "java/lang/Number"), (2, .class_ 14), (0, u "java/io/Serializable"), (0, u "serialVersionUID"), (0, u "J")] 20

def k11m0 : Method := { name := "<init>", desc := "()V", sig := { parameters := [], returnType := none }, accessFlags := 1, code := none }
/-- java/lang/Number -/
def k11 : Class := { plain "java/lang/Number" (some 0) with
  accessFlags := 1057
  interfaces := #[7]
  cf := some (fileOf pool11 8 #[] #[{ accessFlags := 1, nameIndex := 5, descriptorIndex := 6, attributes := #[] }] 1057 2 #[13] #[{ accessFlags := 26, nameIndex := 15, descriptorIndex := 16, attributes := #[] }])
  fields := #[{ name := "serialVersionUID", type := .long, accessFlags := 26, slot := 0, constantValue := 0 }]
  methods := #[k11m0]
  instanceTypes := #[]
  staticTypes := #[.long]
  resolved := Array.replicate 37 none
  statics := none }

def pool12 : Array CpInfo := pool [(1, .class_ 2), (0, u "java/lang/constant/ConstantDesc"), (0, .class_ 4), (0, u "java/lang/Object")] 32

/-- java/lang/constant/ConstantDesc -/
def k12 : Class := { plain "java/lang/constant/ConstantDesc" (some 0) with
  accessFlags := 1537
  interfaces := #[]
  cf := some (fileOf pool12 1 #[] #[] 1537 3 #[] #[])
  fields := #[]
  methods := #[]
  instanceTypes := #[]
  staticTypes := #[]
  resolved := Array.replicate 37 none
  statics := none }

def pool13 : Array CpInfo := pool [(1, .class_ 2), (0, u "java/lang/Long"), (165, .long 9223372036854775808), (66, .class_ 237), (1, u "java/lang/Long$LongCache"), (33, .class_ 272), (0, u "java/lang/Number"), (2, u "value"), (0, u "J"), (25, .methodref 1 303), (0, .nameAndType 304 305), (0, u "compare"), (0, u "(JJ)I"), (55, u "TYPE"), (0, u "Ljava/lang/Class;"), (0, .class_ 364), (0, u "java/lang/Comparable"), (0, .class_ 366), (0, u "java/lang/constant/Constable"), (0, .class_ 368), (0, u "java/lang/constant/ConstantDesc"), (0, u "MIN_VALUE"), (1, u "MAX_VALUE"), (4, u "SIZE"), (0, u "I"), (1, u "BYTES"), (1, u "serialVersionUID"), (87, u "compareUnsigned")] 54

def k13c0 : Code := { maxStack := 4, maxLocals := 4, code := jdk_35_method_42_code, exceptionTable := #[], attributes := #[] }
def k13m0 : Method := { name := "compare", desc := "(JJ)I", sig := { parameters := [.long, .long], returnType := some .int }, accessFlags := 9, code := some k13c0 }
def k13c1 : Code := { maxStack := 6, maxLocals := 4, code := jdk_35_method_43_code, exceptionTable := #[], attributes := #[] }
def k13m1 : Method := { name := "compareUnsigned", desc := "(JJ)I", sig := { parameters := [.long, .long], returnType := some .int }, accessFlags := 9, code := some k13c1 }
/-- java/lang/Long -/
def k13 : Class := { plain "java/lang/Long" (some 11) with
  accessFlags := 49
  interfaces := #[6, 5, 12]
  cf := some (fileOf pool13 1 #[.nestMembers #[235]] #[{ accessFlags := 9, nameIndex := 304, descriptorIndex := 305, attributes := #[] }, { accessFlags := 9, nameIndex := 469, descriptorIndex := 305, attributes := #[] }] 49 271 #[363, 365, 367] #[{ accessFlags := 25, nameIndex := 369, descriptorIndex := 276, attributes := #[] }, { accessFlags := 25, nameIndex := 371, descriptorIndex := 276, attributes := #[] }, { accessFlags := 25, nameIndex := 361, descriptorIndex := 362, attributes := #[] }, { accessFlags := 18, nameIndex := 275, descriptorIndex := 276, attributes := #[] }, { accessFlags := 25, nameIndex := 376, descriptorIndex := 377, attributes := #[] }, { accessFlags := 25, nameIndex := 379, descriptorIndex := 377, attributes := #[] }, { accessFlags := 26, nameIndex := 381, descriptorIndex := 276, attributes := #[] }])
  fields := #[{ name := "MIN_VALUE", type := .long, accessFlags := 25, slot := 0, constantValue := 0 }, { name := "MAX_VALUE", type := .long, accessFlags := 25, slot := 1, constantValue := 0 }, { name := "TYPE", type := (.object "java/lang/Class"), accessFlags := 25, slot := 2, constantValue := 0 }, { name := "value", type := .long, accessFlags := 18, slot := 0, constantValue := 0 }, { name := "SIZE", type := .int, accessFlags := 25, slot := 3, constantValue := 0 }, { name := "BYTES", type := .int, accessFlags := 25, slot := 4, constantValue := 0 }, { name := "serialVersionUID", type := .long, accessFlags := 26, slot := 5, constantValue := 0 }]
  methods := #[k13m0, k13m1]
  instanceTypes := #[.long]
  staticTypes := #[.long, .long, (.object "java/lang/Class"), .int, .int, .long]
  resolved := Array.replicate 524 none
  statics := none }

def pool14 : Array CpInfo := pool [(1, u "java/lang/Cloneable"), (0, .class_ 1), (0, u "java/lang/Object"), (0, .class_ 3)] 3

/-- java/lang/Cloneable -/
def k14 : Class := { plain "java/lang/Cloneable" (some 0) with
  accessFlags := 1537
  interfaces := #[]
  cf := some (fileOf pool14 2 #[] #[] 1537 4 #[] #[])
  fields := #[]
  methods := #[]
  instanceTypes := #[]
  staticTypes := #[]
  resolved := Array.replicate 8 none
  statics := none }

/-- the primitive byte -/
def k15 : Class := { plain "byte" none with kind := .primitive 'B', accessFlags := 0x411 }
/-- [B -/
def k16 : Class := { plain "[B" (some 0) with kind := .array 15 .byte, interfaces := #[14, 7], accessFlags := 1041 }

/-- the primitive int -/
def k17 : Class := { plain "int" none with kind := .primitive 'I', accessFlags := 0x411 }
/-- [I -/
def k18 : Class := { plain "[I" (some 0) with kind := .array 17 .int, interfaces := #[14, 7], accessFlags := 1041 }

def heap : Heap := #[{ cls := 9, slots := #[.ref 1, .null, .null, .null, .null, .null], vm := .statics 9 },
  { cls := 9, slots := #[.null, .int 0, .int 0], vm := .none }]
def classes : Array Class := #[k0, k1, k2, k3, k4, k5, k6, k7, k8, k9, k10, k11, k12, k13, k14, k15, k16, k17, k18]
def interned : List (Array UInt16 × Addr) := []
def slotsUsed : Nat := 9
def theMethod : MethodId := ⟨1, 1⟩
def args0 : Array Value := #[.long 5, .int 5, .long 5, .int 5, .long 5, .int 5]
def aboutOver (below : List Frame) : State where
  vm := { classes := classes, interned := interned.toArray }
  heap := heap
  slotsUsed := slotsUsed
  threads := #[{ frames := .invoking theMethod args0 :: below }]
def below0 : List Frame := [.native { method := ⟨0, 0⟩, args := #[] }]
def about1 : State := aboutOver below0
def p0 : Program := .bare "" "" ""
def e0 : Env := launch0.env 0 0 0
theorem w_frames : about1.frames = Frame.invoking theMethod args0 :: below0 := rfl
set_option maxRecDepth 65536 in
theorem w_args : argsFit about1.vm theMethod args0 = true := by decide +kernel
set_option maxRecDepth 65536 in
theorem w_heap : heapFits about1 = true := by decide +kernel
set_option maxRecDepth 65536 in
theorem w_runnable : about1.curStatus? = some .runnable := by decide +kernel
set_option maxRecDepth 65536 in
theorem w_alone : about1.alone = true := by decide +kernel
set_option maxRecDepth 65536 in
theorem w_named : about1.methodNamed? x = some theMethod := by decide +kernel
set_option maxRecDepth 65536 in
theorem w_hears : about1.hears theMethod below0 = true := by decide +kernel
set_option maxRecDepth 65536 in
theorem w_ripe : about1.ripe theMethod args0 below0 = true := by decide +kernel
theorem w_running : about1.status = .running := rfl
set_option maxRecDepth 65536 in
theorem w_room : about1.hasRoom e0.platform room_1 = true :=
  launch0.hasRoom_least _ room_1 (by decide +kernel) (by decide +kernel) (by decide +kernel) (by decide +kernel) (by decide +kernel) (by decide +kernel)
theorem allAtoms_all (ts : List Jvm.Cond) (a : Array Jvm.Value) (st : Jvm.State) : (allAtoms ts).before a st = ts.all (fun c => c.before a st) := by
  induction ts with
  | nil => rfl
  | cons c t ih =>
    show (Jvm.Cond.and c (allAtoms t)).before a st = _
    rw [Jvm.Cond.before_and, ih, List.all_cons]
def words1 : List Jvm.Cond := Jvm.Cond.code x code maxLocals ret :: tables_1
/-- a 'code' word, met by the world's own term for the bytes: nothing is compared byte by byte -/
theorem code_word {y : MethodName} {bytes : ByteArray} {mx : Nat} {rt : Option FieldType} {a : Array Value} {s : State} {m : MethodId} {meth : Method} {c : Code} (h1 : s.methodNamed? y = some m) (h2 : s.vm.method? m = some meth) (h3 : meth.code = some c) (h4 : c.code = bytes)
    (h5 : (c.maxLocals == mx && c.exceptionTable.isEmpty && decide (c.maxStack ≤ mostOperands) && decide (meth.sig.returnType = rt) && !meth.locks && decide (parseMethodDescriptor y.desc = some meth.sig)) = true) : (Jvm.Cond.code y bytes mx rt).before a s = true := by
  simp only [Bool.and_eq_true, beq_iff_eq, Bool.not_eq_true', decide_eq_true_eq] at h5
  obtain ⟨⟨⟨⟨⟨g1, g2⟩, g3⟩, g4⟩, g5⟩, g6⟩ := h5
  simp [Cond.before, Cond.holds, Cond.value, h1, h2, h3, h4, g1, g2, g3, g4, g5, g6]
def isCode : Jvm.Cond → Bool
  | .code _ _ _ _ => true
  | _ => false
theorem all_split {L : List Jvm.Cond} {P : Jvm.Cond → Bool} (h1 : L.all (fun c => isCode c || P c) = true) (h2 : ∀ c ∈ L.filter isCode, P c = true) : L.all P = true := by
  refine List.all_eq_true.mpr fun c hc => ?_
  have h := List.all_eq_true.mp h1 c hc
  rcases Bool.eq_false_or_eq_true (isCode c) with hi | hi
  · exact h2 c (List.mem_filter.mpr ⟨hc, hi⟩)
  · simpa [hi] using h
set_option maxRecDepth 65536 in
theorem w_c0 : (Jvm.Cond.code x code maxLocals ret).before args0 about1 = true := code_word (m := ⟨1, 1⟩) (meth := k1m1) (c := k1c1) (by decide +kernel) rfl rfl rfl (by decide +kernel)
set_option maxRecDepth 65536 in
theorem w_c1 : (Jvm.Cond.code ({ cls := "java/lang/Math", name := "max", desc := "(II)I" } : Jvm.MethodName) jdk_29_method_65_code (2 : Nat) (Option.some Jvm.ClassFile.FieldType.int)).before args0 about1 = true := code_word (m := ⟨2, 1⟩) (meth := k2m1) (c := k2c1) (by decide +kernel) rfl rfl rfl (by decide +kernel)
set_option maxRecDepth 65536 in
theorem w_c2 : (Jvm.Cond.code ({ cls := "java/lang/Math", name := "min", desc := "(II)I" } : Jvm.MethodName) jdk_29_method_69_code (2 : Nat) (Option.some Jvm.ClassFile.FieldType.int)).before args0 about1 = true := code_word (m := ⟨2, 3⟩) (meth := k2m3) (c := k2c3) (by decide +kernel) rfl rfl rfl (by decide +kernel)
set_option maxRecDepth 65536 in
theorem w_c3 : (Jvm.Cond.code ({ cls := "com/example/portunus/portunus/RateLimiterConfig", name := "<init>", desc := "(IJLcom/example/portunus/portunus/RateLimiterType;)V" } : Jvm.MethodName) prog_22_method_1_code (5 : Nat) (Option.none : Option Jvm.ClassFile.FieldType)).before args0 about1 = true := code_word (m := ⟨4, 0⟩) (meth := k4m0) (c := k4c0) (by decide +kernel) rfl rfl rfl (by decide +kernel)
set_option maxRecDepth 65536 in
theorem w_c4 : (Jvm.Cond.code ({ cls := "java/lang/Object", name := "<init>", desc := "()V" } : Jvm.MethodName) object_method_1_code (1 : Nat) (Option.none : Option Jvm.ClassFile.FieldType)).before args0 about1 = true := code_word (m := ⟨0, 0⟩) (meth := k0m0) (c := k0c0) (by decide +kernel) rfl rfl rfl (by decide +kernel)
set_option maxRecDepth 65536 in
theorem w_c5 : (Jvm.Cond.code ({ cls := "com/example/portunus/portunus/Periods", name := "<init>", desc := "(Lcom/example/portunus/portunus/RateLimiterConfig;)V" } : Jvm.MethodName) prog_16_method_1_code (2 : Nat) (Option.none : Option Jvm.ClassFile.FieldType)).before args0 about1 = true := code_word (m := ⟨3, 0⟩) (meth := k3m0) (c := k3c0) (by decide +kernel) rfl rfl rfl (by decide +kernel)
set_option maxRecDepth 65536 in
theorem w_c6 : (Jvm.Cond.code ({ cls := "com/example/portunus/portunus/RateLimiterConfig", name := "getMaxRequests", desc := "()I" } : Jvm.MethodName) prog_22_method_2_code (1 : Nat) (Option.some Jvm.ClassFile.FieldType.int)).before args0 about1 = true := code_word (m := ⟨4, 1⟩) (meth := k4m1) (c := k4c1) (by decide +kernel) rfl rfl rfl (by decide +kernel)
set_option maxRecDepth 65536 in
theorem w_c7 : (Jvm.Cond.code ({ cls := "com/example/portunus/portunus/RateLimiterConfig", name := "getTimeWindowNanos", desc := "()J" } : Jvm.MethodName) prog_22_method_4_code (1 : Nat) (Option.some Jvm.ClassFile.FieldType.long)).before args0 about1 = true := code_word (m := ⟨4, 2⟩) (meth := k4m2) (c := k4c2) (by decide +kernel) rfl rfl rfl (by decide +kernel)
set_option maxRecDepth 65536 in
theorem w_c8 : (Jvm.Cond.code ({ cls := "com/example/portunus/portunus/Periods$Debt", name := "<init>", desc := "(J)V" } : Jvm.MethodName) prog_17_method_1_code (3 : Nat) (Option.none : Option Jvm.ClassFile.FieldType)).before args0 about1 = true := code_word (m := ⟨10, 0⟩) (meth := k10m0) (c := k10c0) (by decide +kernel) rfl rfl rfl (by decide +kernel)
set_option maxRecDepth 65536 in
theorem w_c9 : (Jvm.Cond.code ({ cls := "com/example/portunus/portunus/Periods$Debt", name := "payOff", desc := "(J)V" } : Jvm.MethodName) prog_17_method_2_code (5 : Nat) (Option.none : Option Jvm.ClassFile.FieldType)).before args0 about1 = true := code_word (m := ⟨10, 1⟩) (meth := k10m1) (c := k10c1) (by decide +kernel) rfl rfl rfl (by decide +kernel)
set_option maxRecDepth 65536 in
theorem w_c10 : (Jvm.Cond.code ({ cls := "java/lang/Long", name := "compareUnsigned", desc := "(JJ)I" } : Jvm.MethodName) jdk_35_method_43_code (4 : Nat) (Option.some Jvm.ClassFile.FieldType.int)).before args0 about1 = true := code_word (m := ⟨13, 1⟩) (meth := k13m1) (c := k13c1) (by decide +kernel) rfl rfl rfl (by decide +kernel)
set_option maxRecDepth 65536 in
theorem w_c11 : (Jvm.Cond.code ({ cls := "java/lang/Long", name := "compare", desc := "(JJ)I" } : Jvm.MethodName) jdk_35_method_42_code (4 : Nat) (Option.some Jvm.ClassFile.FieldType.int)).before args0 about1 = true := code_word (m := ⟨13, 0⟩) (meth := k13m0) (c := k13c0) (by decide +kernel) rfl rfl rfl (by decide +kernel)
set_option maxRecDepth 65536 in
theorem w_c12 : (Jvm.Cond.code ({ cls := "java/lang/Math", name := "max", desc := "(JJ)J" } : Jvm.MethodName) jdk_29_method_66_code (4 : Nat) (Option.some Jvm.ClassFile.FieldType.long)).before args0 about1 = true := code_word (m := ⟨2, 2⟩) (meth := k2m2) (c := k2c2) (by decide +kernel) rfl rfl rfl (by decide +kernel)
set_option maxRecDepth 65536 in
theorem w_c13 : (Jvm.Cond.code ({ cls := "com/example/portunus/portunus/Periods$Debt", name := "roundedUp", desc := "()J" } : Jvm.MethodName) prog_17_method_4_code (1 : Nat) (Option.some Jvm.ClassFile.FieldType.long)).before args0 about1 = true := code_word (m := ⟨10, 2⟩) (meth := k10m2) (c := k10c2) (by decide +kernel) rfl rfl rfl (by decide +kernel)
set_option maxRecDepth 65536 in
theorem w_c14 : (Jvm.Cond.code ({ cls := "com/example/portunus/portunus/Periods", name := "addPeriod", desc := "(Lcom/example/portunus/portunus/Periods$Debt;)V" } : Jvm.MethodName) prog_16_method_3_code (4 : Nat) (Option.none : Option Jvm.ClassFile.FieldType)).before args0 about1 = true := code_word (m := ⟨3, 1⟩) (meth := k3m1) (c := k3c1) (by decide +kernel) rfl rfl rfl (by decide +kernel)
def codes1 : List Jvm.Cond := [Jvm.Cond.code x code maxLocals ret, Jvm.Cond.code ({ cls := "java/lang/Math", name := "max", desc := "(II)I" } : Jvm.MethodName) jdk_29_method_65_code (2 : Nat) (Option.some Jvm.ClassFile.FieldType.int), Jvm.Cond.code ({ cls := "java/lang/Math", name := "min", desc := "(II)I" } : Jvm.MethodName) jdk_29_method_69_code (2 : Nat) (Option.some Jvm.ClassFile.FieldType.int), Jvm.Cond.code ({ cls := "com/example/portunus/portunus/RateLimiterConfig", name := "<init>", desc := "(IJLcom/example/portunus/portunus/RateLimiterType;)V" } : Jvm.MethodName) prog_22_method_1_code (5 : Nat) (Option.none : Option Jvm.ClassFile.FieldType), Jvm.Cond.code ({ cls := "java/lang/Object", name := "<init>", desc := "()V" } : Jvm.MethodName) object_method_1_code (1 : Nat) (Option.none : Option Jvm.ClassFile.FieldType), Jvm.Cond.code ({ cls := "com/example/portunus/portunus/Periods", name := "<init>", desc := "(Lcom/example/portunus/portunus/RateLimiterConfig;)V" } : Jvm.MethodName) prog_16_method_1_code (2 : Nat) (Option.none : Option Jvm.ClassFile.FieldType), Jvm.Cond.code ({ cls := "com/example/portunus/portunus/RateLimiterConfig", name := "getMaxRequests", desc := "()I" } : Jvm.MethodName) prog_22_method_2_code (1 : Nat) (Option.some Jvm.ClassFile.FieldType.int), Jvm.Cond.code ({ cls := "com/example/portunus/portunus/RateLimiterConfig", name := "getTimeWindowNanos", desc := "()J" } : Jvm.MethodName) prog_22_method_4_code (1 : Nat) (Option.some Jvm.ClassFile.FieldType.long), Jvm.Cond.code ({ cls := "com/example/portunus/portunus/Periods$Debt", name := "<init>", desc := "(J)V" } : Jvm.MethodName) prog_17_method_1_code (3 : Nat) (Option.none : Option Jvm.ClassFile.FieldType), Jvm.Cond.code ({ cls := "com/example/portunus/portunus/Periods$Debt", name := "payOff", desc := "(J)V" } : Jvm.MethodName) prog_17_method_2_code (5 : Nat) (Option.none : Option Jvm.ClassFile.FieldType), Jvm.Cond.code ({ cls := "java/lang/Long", name := "compareUnsigned", desc := "(JJ)I" } : Jvm.MethodName) jdk_35_method_43_code (4 : Nat) (Option.some Jvm.ClassFile.FieldType.int), Jvm.Cond.code ({ cls := "java/lang/Long", name := "compare", desc := "(JJ)I" } : Jvm.MethodName) jdk_35_method_42_code (4 : Nat) (Option.some Jvm.ClassFile.FieldType.int), Jvm.Cond.code ({ cls := "java/lang/Math", name := "max", desc := "(JJ)J" } : Jvm.MethodName) jdk_29_method_66_code (4 : Nat) (Option.some Jvm.ClassFile.FieldType.long), Jvm.Cond.code ({ cls := "com/example/portunus/portunus/Periods$Debt", name := "roundedUp", desc := "()J" } : Jvm.MethodName) prog_17_method_4_code (1 : Nat) (Option.some Jvm.ClassFile.FieldType.long), Jvm.Cond.code ({ cls := "com/example/portunus/portunus/Periods", name := "addPeriod", desc := "(Lcom/example/portunus/portunus/Periods$Debt;)V" } : Jvm.MethodName) prog_16_method_3_code (4 : Nat) (Option.none : Option Jvm.ClassFile.FieldType)]
set_option maxRecDepth 65536 in
theorem codes_eq : words1.filter isCode = codes1 := rfl
theorem w_codes : ∀ c ∈ words1.filter isCode, c.before args0 about1 = true := by
  rw [codes_eq]
  intro c hc
  simp only [codes1, List.mem_cons, List.not_mem_nil, or_false] at hc
  rcases hc with rfl | rfl | rfl | rfl | rfl | rfl | rfl | rfl | rfl | rfl | rfl | rfl | rfl | rfl | rfl
  · exact w_c0
  · exact w_c1
  · exact w_c2
  · exact w_c3
  · exact w_c4
  · exact w_c5
  · exact w_c6
  · exact w_c7
  · exact w_c8
  · exact w_c9
  · exact w_c10
  · exact w_c11
  · exact w_c12
  · exact w_c13
  · exact w_c14
set_option maxRecDepth 65536 in
theorem w_t1 : (words1.take 24).all (fun c => isCode c || c.before args0 about1) = true := by decide +kernel
set_option maxRecDepth 65536 in
theorem w_t2 : ((words1.drop 24).take 24).all (fun c => isCode c || c.before args0 about1) = true := by decide +kernel
set_option maxRecDepth 65536 in
theorem w_t3 : (((words1.drop 24).drop 24).take 24).all (fun c => isCode c || c.before args0 about1) = true := by decide +kernel
set_option maxRecDepth 65536 in
theorem w_t4 : ((((words1.drop 24).drop 24).drop 24).take 24).all (fun c => isCode c || c.before args0 about1) = true := by decide +kernel
set_option maxRecDepth 65536 in
theorem w_t5 : ((((words1.drop 24).drop 24).drop 24).drop 24).all (fun c => isCode c || c.before args0 about1) = true := by decide +kernel
theorem w_tables : (allAtoms (Jvm.Cond.code x code maxLocals ret :: tables_1)).before args0 about1 = true := by
  rw [allAtoms_all]
  show words1.all (fun c => c.before args0 about1) = true
  refine all_split ?_ w_codes
  rw [← List.take_append_drop 24 words1, List.all_append, w_t1, ← List.take_append_drop 24 (words1.drop 24), List.all_append, w_t2, ← List.take_append_drop 24 ((words1.drop 24).drop 24), List.all_append, w_t3, ← List.take_append_drop 24 (((words1.drop 24).drop 24).drop 24), List.all_append, w_t4, w_t5]
  rfl
set_option maxRecDepth 65536 in
theorem w_case : (Jvm.Cond.and given_1 narrow_1).before args0 about1 = true := by decide +kernel
theorem w_applies : (headSpec (Jvm.Cond.code x code maxLocals ret :: tables_1) room_1).applies x e0.platform about1 = true :=
  (Spec.applies_iff w_frames).mpr ⟨w_running, w_runnable, w_alone, w_named, w_hears, w_ripe, w_room, w_tables⟩
theorem atStart : AtStart classFile x code maxLocals ret World_1 tables_1 room_1 Calls_1 rest_1 Pre_1 launch0 p0 e0 about1 theMethod args0 below0 :=
  ⟨lists_1, trivial, launch0.admits_env _ _ _, launch0.least_env, fairChoices_fair.cas, fairChoices_fair.clock, w_frames, w_args, w_heap, w_applies, trivial, trivial, w_case⟩
end start1
theorem witness_1 : WitnessClaimed_1 := ⟨start1.p0, start1.e0, start1.about1, start1.theMethod, start1.args0, start1.below0, start1.atStart⟩
end Jvm.Pilot.@@N@@
