import JvmDerived
import JvmDerived.Pilot.@@N@@Statement
import JvmDerived.Pilot.@@N@@Code
set_option linter.unusedVariables false
set_option linter.unusedSimpArgs false
namespace Jvm.Pilot.@@N@@
open Jvm Jvm.ClassFile Sem Op Lib Jvm.Free Jvm.Stand Jvm.LawKit Jvm.RoadKit Bundle Jvm.Free.Fl Jvm.Pilot.@@N@@.Jvm.D
theorem own_hw {a0 : Array Value} {Z : State} (hw : ∀ d ∈ tables_1, d.before a0 Z = true) (i : Nat) {d : Jvm.Cond} (h : tables_1[i]? = some d) : d.before a0 Z = true := hw d (List.mem_of_getElem? h)
section OwnKit
variable {p : Program} {l : Launch} {e : Env} {R : Room} {s : State} {m : MethodId} {args : Array Value} {below : List Frame} {meth : Method} {c : Code} {T : State} {locs : List Loc} {cells slots : Nat}
/-- from the state t the run goes on to a return of which Q holds -/
def own_Go (p : Program) (e : Env) (below : List Frame) (Fe : Outcome → State → List Loc → Prop) (Q : Option Value → Heap → List Loc → Prop) (t : State) : Prop :=
  ∃ s₂ o, Steps p.tables e below t s₂ ∧ s₂.status = .running ∧ Ended s₂ below o ∧ ∃ v L, o = .returned v ∧ Q v s₂.heap L ∧ Fe o s₂ L
theorem own_st {Fe : Outcome → State → List Loc → Prop} {Q : Option Value → Heap → List Loc → Prop} {t t' : State} (h : ∀ target, Steps p.tables e below t' target → Steps p.tables e below t target) (k : own_Go p e below Fe Q t') : own_Go p e below Fe Q t := by
  obtain ⟨s₂, o, h1, r⟩ := k
  exact ⟨s₂, o, h _ h1, r⟩
theorem own_tr {Fe : Outcome → State → List Loc → Prop} {Q : Option Value → Heap → List Loc → Prop} {t t' : State} (h : Steps p.tables e below t t') (k : own_Go p e below Fe Q t') : own_Go p e below Fe Q t := own_st (fun _ q => h.trans q) k
theorem own_ret (X : Stand p l e R s m args below meth c T locs cells slots) {K N : Nat} {Q : Option Value → Heap → List Loc → Prop} {t : State} (v : Option Value) (hv : meth.sig.returnType = none → v = none) (hlocks : meth.locks = false) (hK : cells ≤ K) (hN : slots ≤ N) (hQ : Q v T.heap locs)
    (hs : ∀ fs : List Frame, (∀ (f : JFrame) (acts : List Action), f.method = m → f.locked = none → f.entered = [] → (doReturn e (T.setTop f) acts v).1 = T.setFrames fs) → Steps p.tables e below t (T.setFrames fs)) : own_Go p e below (fun o u L => FrameEnd s o u L K N) Q t := by
  obtain ⟨fs, hr, hrun, hended, hW, hsame⟩ := X.leave (v := v) hv
  exact ⟨_, _, hs fs hr, hrun, hended, _, _, rfl, hQ, ⟨_, rfl⟩, hW, hsame.mono hK hN⟩
theorem own_retI (X : Stand p l e R s m args below meth c T locs cells slots) (hx : p.tables.exec = Jvm.exec) {pc : Nat} {Ls : Array Slot} {z : Int32} {rest : List Value} (hret : meth.sig.returnType = some .int) (hd : decode c.code pc = .ok (.ireturn, 1)) {fs : List Frame}
    (hl : ∀ (f : JFrame) (acts : List Action), f.method = m → f.locked = none → f.entered = [] → (doReturn e (T.setTop f) acts (some (.int z))).1 = T.setFrames fs) : Steps p.tables e below (T.setTop (mkF m pc Ls (.int z :: rest))) (T.setFrames fs) :=
  retOut X hx hret rfl (Or.inl ⟨rfl, Or.inl rfl, _, rfl⟩) hd hl
theorem own_retD (X : Stand p l e R s m args below meth c T locs cells slots) (hx : p.tables.exec = Jvm.exec) {pc : Nat} {Ls : Array Slot} {z : UInt64} {rest : List Value} (hret : meth.sig.returnType = some .double) (hd : decode c.code pc = .ok (.dreturn, 1)) {fs : List Frame}
    (hl : ∀ (f : JFrame) (acts : List Action), f.method = m → f.locked = none → f.entered = [] → (doReturn e (T.setTop f) acts (some (.double z))).1 = T.setFrames fs) : Steps p.tables e below (T.setTop (mkF m pc Ls (.double z :: rest))) (T.setFrames fs) :=
  retOut X hx hret rfl (Or.inr (Or.inr (Or.inl ⟨rfl, rfl, _, rfl⟩))) hd hl
theorem own_retJ (X : Stand p l e R s m args below meth c T locs cells slots) (hx : p.tables.exec = Jvm.exec) {pc : Nat} {Ls : Array Slot} {z : Int64} {rest : List Value} (hret : meth.sig.returnType = some .long) (hd : decode c.code pc = .ok (.lreturn, 1)) {fs : List Frame}
    (hl : ∀ (f : JFrame) (acts : List Action), f.method = m → f.locked = none → f.entered = [] → (doReturn e (T.setTop f) acts (some (.long z))).1 = T.setFrames fs) : Steps p.tables e below (T.setTop (mkF m pc Ls (.long z :: rest))) (T.setFrames fs) :=
  retOut X hx hret rfl (Or.inr (Or.inl ⟨rfl, rfl, _, rfl⟩)) hd hl
theorem own_retR (X : Stand p l e R s m args below meth c T locs cells slots) (hx : p.tables.exec = Jvm.exec) {pc : Nat} {Ls : Array Slot} {w : Value} {rest : List Value} {t : FieldType} (hret : meth.sig.returnType = some t) (ht : t.isReference = true) (hw : w.isRef = true) (hd : decode c.code pc = .ok (.areturn, 1)) {fs : List Frame}
    (hl : ∀ (f : JFrame) (acts : List Action), f.method = m → f.locked = none → f.entered = [] → (doReturn e (T.setTop f) acts (some w)).1 = T.setFrames fs) : Steps p.tables e below (T.setTop (mkF m pc Ls (w :: rest))) (T.setFrames fs) :=
  retOut X hx hret (by cases t <;> first | (cases ht; done) | rfl) (Or.inr (Or.inr (Or.inr (Or.inr ⟨rfl, ht, hw⟩)))) hd hl
theorem own_staKeep {Z : State} {h h' : Heap} {C n d : String} {v : Value} {ws : List Addr} (F : Sta Z h C n d v) (K : Keep h h' ws) (hn : ∀ x ∈ ws, ∀ cell : Cell, h[x]? = some cell → cell.vm.isStatics = false) : Sta Z h' C n d v := by
  obtain ⟨cf, i, k, f, st, cell, h1, h2, h3, h4, h5, h6, h7⟩ := F
  exact ⟨cf, i, k, f, st, cell, h1, h2, h3, h4, K.2.1 st cell h5 (fun q => by have := hn st q cell h5; rw [h6] at this; cases this), h6, h7⟩
end OwnKit
section OwnSteps
variable {p : Program} {l : Launch} {e : Env} {R : Room} {s : State} {m : MethodId} {args : Array Value} {below : List Frame} {meth : Method} {c : Code} {T : State} {locs : List Loc} {cells slots : Nat} {Fe : Outcome → State → List Loc → Prop} {Q : Option Value → Heap → List Loc → Prop} {pc : Nat} {Ls : Array Slot} {st : List Value} {Z : State} {a0 : Array Value} {h : Heap}
theorem own_iload (X : Stand p l e R s m args below meth c T locs cells slots) (hx : p.tables.exec = Jvm.exec) {i : Nat} {v : Int32} (pc' : Nat) (hp : pc + 2 = pc') (hd : decode c.code pc = .ok (.iload i, 2)) (hl : Ls[i]? = some (.val (.int v))) (k : own_Go p e below Fe Q (T.setTop (mkF m pc' Ls (.int v :: st)))) : own_Go p e below Fe Q (T.setTop (mkF m pc Ls (st))) := by
  subst hp
  exact own_st (fun _ hr => XS.iload X.here hx rfl hd hl hr) k
theorem own_iloadN (X : Stand p l e R s m args below meth c T locs cells slots) (hx : p.tables.exec = Jvm.exec) {i : Fin 4} {v : Int32} (pc' : Nat) (hp : pc + 1 = pc') (hd : decode c.code pc = .ok (.iload_n i, 1)) (hl : Ls[i.val]? = some (.val (.int v))) (k : own_Go p e below Fe Q (T.setTop (mkF m pc' Ls (.int v :: st)))) : own_Go p e below Fe Q (T.setTop (mkF m pc Ls (st))) := by
  subst hp
  exact own_st (fun _ hr => XS.iloadN X.here hx rfl hd hl hr) k
theorem own_istore (X : Stand p l e R s m args below meth c T locs cells slots) (hx : p.tables.exec = Jvm.exec) {i : Nat} {x : Int32} (pc' : Nat) (hp : pc + 2 = pc') (hd : decode c.code pc = .ok (.istore i, 2)) (Ls' : Array Slot) (hl : storeLocals Ls i (.int x) = some Ls') (k : own_Go p e below Fe Q (T.setTop (mkF m pc' Ls' (st)))) : own_Go p e below Fe Q (T.setTop (mkF m pc Ls (.int x :: st))) := by
  subst hp
  exact own_st (fun _ hr => XS.istore X.here hx rfl hd rfl hl hr) k
theorem own_istoreN (X : Stand p l e R s m args below meth c T locs cells slots) (hx : p.tables.exec = Jvm.exec) {i : Fin 4} {x : Int32} (pc' : Nat) (hp : pc + 1 = pc') (hd : decode c.code pc = .ok (.istore_n i, 1)) (Ls' : Array Slot) (hl : storeLocals Ls i.val (.int x) = some Ls') (k : own_Go p e below Fe Q (T.setTop (mkF m pc' Ls' (st)))) : own_Go p e below Fe Q (T.setTop (mkF m pc Ls (.int x :: st))) := by
  subst hp
  exact own_st (fun _ hr => XS.istoreN X.here hx rfl hd rfl hl hr) k
theorem own_lload (X : Stand p l e R s m args below meth c T locs cells slots) (hx : p.tables.exec = Jvm.exec) {i : Nat} {v : Int64} (pc' : Nat) (hp : pc + 2 = pc') (hd : decode c.code pc = .ok (.lload i, 2)) (hl : Ls[i]? = some (.val (.long v))) (k : own_Go p e below Fe Q (T.setTop (mkF m pc' Ls (.long v :: st)))) : own_Go p e below Fe Q (T.setTop (mkF m pc Ls (st))) := by
  subst hp
  exact own_st (fun _ hr => XS.lload X.here hx rfl hd hl hr) k
theorem own_lloadN (X : Stand p l e R s m args below meth c T locs cells slots) (hx : p.tables.exec = Jvm.exec) {i : Fin 4} {v : Int64} (pc' : Nat) (hp : pc + 1 = pc') (hd : decode c.code pc = .ok (.lload_n i, 1)) (hl : Ls[i.val]? = some (.val (.long v))) (k : own_Go p e below Fe Q (T.setTop (mkF m pc' Ls (.long v :: st)))) : own_Go p e below Fe Q (T.setTop (mkF m pc Ls (st))) := by
  subst hp
  exact own_st (fun _ hr => XS.lloadN X.here hx rfl hd hl hr) k
theorem own_lstore (X : Stand p l e R s m args below meth c T locs cells slots) (hx : p.tables.exec = Jvm.exec) {i : Nat} {x : Int64} (pc' : Nat) (hp : pc + 2 = pc') (hd : decode c.code pc = .ok (.lstore i, 2)) (Ls' : Array Slot) (hl : storeLocals Ls i (.long x) = some Ls') (k : own_Go p e below Fe Q (T.setTop (mkF m pc' Ls' (st)))) : own_Go p e below Fe Q (T.setTop (mkF m pc Ls (.long x :: st))) := by
  subst hp
  exact own_st (fun _ hr => XS.lstore X.here hx rfl hd rfl hl hr) k
theorem own_lstoreN (X : Stand p l e R s m args below meth c T locs cells slots) (hx : p.tables.exec = Jvm.exec) {i : Fin 4} {x : Int64} (pc' : Nat) (hp : pc + 1 = pc') (hd : decode c.code pc = .ok (.lstore_n i, 1)) (Ls' : Array Slot) (hl : storeLocals Ls i.val (.long x) = some Ls') (k : own_Go p e below Fe Q (T.setTop (mkF m pc' Ls' (st)))) : own_Go p e below Fe Q (T.setTop (mkF m pc Ls (.long x :: st))) := by
  subst hp
  exact own_st (fun _ hr => XS.lstoreN X.here hx rfl hd rfl hl hr) k
theorem own_dload (X : Stand p l e R s m args below meth c T locs cells slots) (hx : p.tables.exec = Jvm.exec) {i : Nat} {v : UInt64} (pc' : Nat) (hp : pc + 2 = pc') (hd : decode c.code pc = .ok (.dload i, 2)) (hl : Ls[i]? = some (.val (.double v))) (k : own_Go p e below Fe Q (T.setTop (mkF m pc' Ls (.double v :: st)))) : own_Go p e below Fe Q (T.setTop (mkF m pc Ls (st))) := by
  subst hp
  exact own_st (fun _ hr => XS.dload X.here hx rfl hd hl hr) k
theorem own_dloadN (X : Stand p l e R s m args below meth c T locs cells slots) (hx : p.tables.exec = Jvm.exec) {i : Fin 4} {v : UInt64} (pc' : Nat) (hp : pc + 1 = pc') (hd : decode c.code pc = .ok (.dload_n i, 1)) (hl : Ls[i.val]? = some (.val (.double v))) (k : own_Go p e below Fe Q (T.setTop (mkF m pc' Ls (.double v :: st)))) : own_Go p e below Fe Q (T.setTop (mkF m pc Ls (st))) := by
  subst hp
  exact own_st (fun _ hr => XS.dloadN X.here hx rfl hd hl hr) k
theorem own_dstore (X : Stand p l e R s m args below meth c T locs cells slots) (hx : p.tables.exec = Jvm.exec) {i : Nat} {x : UInt64} (pc' : Nat) (hp : pc + 2 = pc') (hd : decode c.code pc = .ok (.dstore i, 2)) (Ls' : Array Slot) (hl : storeLocals Ls i (.double x) = some Ls') (k : own_Go p e below Fe Q (T.setTop (mkF m pc' Ls' (st)))) : own_Go p e below Fe Q (T.setTop (mkF m pc Ls (.double x :: st))) := by
  subst hp
  exact own_st (fun _ hr => XS.dstore X.here hx rfl hd rfl hl hr) k
theorem own_dstoreN (X : Stand p l e R s m args below meth c T locs cells slots) (hx : p.tables.exec = Jvm.exec) {i : Fin 4} {x : UInt64} (pc' : Nat) (hp : pc + 1 = pc') (hd : decode c.code pc = .ok (.dstore_n i, 1)) (Ls' : Array Slot) (hl : storeLocals Ls i.val (.double x) = some Ls') (k : own_Go p e below Fe Q (T.setTop (mkF m pc' Ls' (st)))) : own_Go p e below Fe Q (T.setTop (mkF m pc Ls (.double x :: st))) := by
  subst hp
  exact own_st (fun _ hr => XS.dstoreN X.here hx rfl hd rfl hl hr) k
theorem own_aload (X : Stand p l e R s m args below meth c T locs cells slots) (hx : p.tables.exec = Jvm.exec) {i : Nat} {v : Value} (pc' : Nat) (hp : pc + 2 = pc') (hd : decode c.code pc = .ok (.aload i, 2)) (hl : Ls[i]? = some (.val v)) (hv : v.isRef = true) (k : own_Go p e below Fe Q (T.setTop (mkF m pc' Ls (v :: st)))) : own_Go p e below Fe Q (T.setTop (mkF m pc Ls (st))) := by
  subst hp
  exact own_st (fun _ hr => XS.aload X.here hx rfl hd hl hv hr) k
theorem own_aloadN (X : Stand p l e R s m args below meth c T locs cells slots) (hx : p.tables.exec = Jvm.exec) {i : Fin 4} {v : Value} (pc' : Nat) (hp : pc + 1 = pc') (hd : decode c.code pc = .ok (.aload_n i, 1)) (hl : Ls[i.val]? = some (.val v)) (hv : v.isRef = true) (k : own_Go p e below Fe Q (T.setTop (mkF m pc' Ls (v :: st)))) : own_Go p e below Fe Q (T.setTop (mkF m pc Ls (st))) := by
  subst hp
  exact own_st (fun _ hr => XS.aloadN X.here hx rfl hd hl hv hr) k
theorem own_astore (X : Stand p l e R s m args below meth c T locs cells slots) (hx : p.tables.exec = Jvm.exec) {i : Nat} {x : Value} (pc' : Nat) (hp : pc + 2 = pc') (hd : decode c.code pc = .ok (.astore i, 2)) (hv : x.isRef = true) (Ls' : Array Slot) (hl : storeLocals Ls i x = some Ls') (k : own_Go p e below Fe Q (T.setTop (mkF m pc' Ls' (st)))) : own_Go p e below Fe Q (T.setTop (mkF m pc Ls (x :: st))) := by
  subst hp
  exact own_st (fun _ hr => XS.astore X.here hx rfl hd rfl hv hl hr) k
theorem own_astoreN (X : Stand p l e R s m args below meth c T locs cells slots) (hx : p.tables.exec = Jvm.exec) {i : Fin 4} {x : Value} (pc' : Nat) (hp : pc + 1 = pc') (hd : decode c.code pc = .ok (.astore_n i, 1)) (hv : x.isRef = true) (Ls' : Array Slot) (hl : storeLocals Ls i.val x = some Ls') (k : own_Go p e below Fe Q (T.setTop (mkF m pc' Ls' (st)))) : own_Go p e below Fe Q (T.setTop (mkF m pc Ls (x :: st))) := by
  subst hp
  exact own_st (fun _ hr => XS.astoreN X.here hx rfl hd rfl hv hl hr) k
theorem own_iconst (X : Stand p l e R s m args below meth c T locs cells slots) (hx : p.tables.exec = Jvm.exec) {i : Int} (pc' : Nat) (hp : pc + 1 = pc') (hd : decode c.code pc = .ok (.iconst i, 1)) (z : Int32) (hz : Int32.ofInt i = z) (k : own_Go p e below Fe Q (T.setTop (mkF m pc' Ls (.int z :: st)))) : own_Go p e below Fe Q (T.setTop (mkF m pc Ls (st))) := by
  subst hp; subst hz
  exact own_st (fun _ hr => XS.iconst X.here hx rfl hd hr) k
theorem own_bipush (X : Stand p l e R s m args below meth c T locs cells slots) (hx : p.tables.exec = Jvm.exec) {i : Int} (pc' : Nat) (hp : pc + 2 = pc') (hd : decode c.code pc = .ok (.bipush i, 2)) (z : Int32) (hz : (Int8.ofInt i).toInt32 = z) (k : own_Go p e below Fe Q (T.setTop (mkF m pc' Ls (.int z :: st)))) : own_Go p e below Fe Q (T.setTop (mkF m pc Ls (st))) := by
  subst hp; subst hz
  exact own_st (fun _ hr => XS.bipush X.here hx rfl hd hr) k
theorem own_sipush (X : Stand p l e R s m args below meth c T locs cells slots) (hx : p.tables.exec = Jvm.exec) {i : Int} (pc' : Nat) (hp : pc + 3 = pc') (hd : decode c.code pc = .ok (.sipush i, 3)) (z : Int32) (hz : (Int16.ofInt i).toInt32 = z) (k : own_Go p e below Fe Q (T.setTop (mkF m pc' Ls (.int z :: st)))) : own_Go p e below Fe Q (T.setTop (mkF m pc Ls (st))) := by
  subst hp; subst hz
  exact own_st (fun _ hr => XS.sipush X.here hx rfl hd hr) k
theorem own_lconst (X : Stand p l e R s m args below meth c T locs cells slots) (hx : p.tables.exec = Jvm.exec) {i : Fin 2} (pc' : Nat) (hp : pc + 1 = pc') (hd : decode c.code pc = .ok (.lconst i, 1)) (z : Int64) (hz : Int64.ofNat i = z) (k : own_Go p e below Fe Q (T.setTop (mkF m pc' Ls (.long z :: st)))) : own_Go p e below Fe Q (T.setTop (mkF m pc Ls (st))) := by
  subst hp; subst hz
  exact own_st (fun _ hr => XS.lconst X.here hx rfl hd hr) k
theorem own_dconst0 (X : Stand p l e R s m args below meth c T locs cells slots) (hx : p.tables.exec = Jvm.exec)  (pc' : Nat) (hp : pc + 1 = pc') (hd : decode c.code pc = .ok (.dconst 0, 1))  (k : own_Go p e below Fe Q (T.setTop (mkF m pc' Ls (.double FP.dconst0 :: st)))) : own_Go p e below Fe Q (T.setTop (mkF m pc Ls (st))) := by
  subst hp
  exact own_st (fun _ hr => XS.dconst0 X.here hx rfl hd rfl hr) k
theorem own_dconst1 (X : Stand p l e R s m args below meth c T locs cells slots) (hx : p.tables.exec = Jvm.exec)  (pc' : Nat) (hp : pc + 1 = pc') (hd : decode c.code pc = .ok (.dconst 1, 1))  (k : own_Go p e below Fe Q (T.setTop (mkF m pc' Ls (.double FP.dconst1 :: st)))) : own_Go p e below Fe Q (T.setTop (mkF m pc Ls (st))) := by
  subst hp
  exact own_st (fun _ hr => XS.dconst1 X.here hx rfl hd rfl hr) k
theorem own_aconst_null (X : Stand p l e R s m args below meth c T locs cells slots) (hx : p.tables.exec = Jvm.exec)  (pc' : Nat) (hp : pc + 1 = pc') (hd : decode c.code pc = .ok (.aconst_null, 1))  (k : own_Go p e below Fe Q (T.setTop (mkF m pc' Ls (.null :: st)))) : own_Go p e below Fe Q (T.setTop (mkF m pc Ls (st))) := by
  subst hp
  exact own_st (fun _ hr => XS.aconstNull X.here hx rfl hd hr) k
theorem own_iadd (X : Stand p l e R s m args below meth c T locs cells slots) (hx : p.tables.exec = Jvm.exec) {x y : Int32} (pc' : Nat) (hp : pc + 1 = pc') (hd : decode c.code pc = .ok (.iadd, 1)) (z : Int32) (hz : x + y = z) (k : own_Go p e below Fe Q (T.setTop (mkF m pc' Ls (.int z :: st)))) : own_Go p e below Fe Q (T.setTop (mkF m pc Ls (.int y :: .int x :: st))) := by
  subst hp; subst hz
  exact own_st (fun _ hr => XS.iadd X.here hx rfl hd rfl hr) k
theorem own_isub (X : Stand p l e R s m args below meth c T locs cells slots) (hx : p.tables.exec = Jvm.exec) {x y : Int32} (pc' : Nat) (hp : pc + 1 = pc') (hd : decode c.code pc = .ok (.isub, 1)) (z : Int32) (hz : x - y = z) (k : own_Go p e below Fe Q (T.setTop (mkF m pc' Ls (.int z :: st)))) : own_Go p e below Fe Q (T.setTop (mkF m pc Ls (.int y :: .int x :: st))) := by
  subst hp; subst hz
  exact own_st (fun _ hr => XS.isub X.here hx rfl hd rfl hr) k
theorem own_imul (X : Stand p l e R s m args below meth c T locs cells slots) (hx : p.tables.exec = Jvm.exec) {x y : Int32} (pc' : Nat) (hp : pc + 1 = pc') (hd : decode c.code pc = .ok (.imul, 1)) (z : Int32) (hz : x * y = z) (k : own_Go p e below Fe Q (T.setTop (mkF m pc' Ls (.int z :: st)))) : own_Go p e below Fe Q (T.setTop (mkF m pc Ls (.int y :: .int x :: st))) := by
  subst hp; subst hz
  exact own_st (fun _ hr => XS.imul X.here hx rfl hd rfl hr) k
theorem own_iand (X : Stand p l e R s m args below meth c T locs cells slots) (hx : p.tables.exec = Jvm.exec) {x y : Int32} (pc' : Nat) (hp : pc + 1 = pc') (hd : decode c.code pc = .ok (.iand, 1)) (z : Int32) (hz : x &&& y = z) (k : own_Go p e below Fe Q (T.setTop (mkF m pc' Ls (.int z :: st)))) : own_Go p e below Fe Q (T.setTop (mkF m pc Ls (.int y :: .int x :: st))) := by
  subst hp; subst hz
  exact own_st (fun _ hr => XS.iand X.here hx rfl hd rfl hr) k
theorem own_ior (X : Stand p l e R s m args below meth c T locs cells slots) (hx : p.tables.exec = Jvm.exec) {x y : Int32} (pc' : Nat) (hp : pc + 1 = pc') (hd : decode c.code pc = .ok (.ior, 1)) (z : Int32) (hz : x ||| y = z) (k : own_Go p e below Fe Q (T.setTop (mkF m pc' Ls (.int z :: st)))) : own_Go p e below Fe Q (T.setTop (mkF m pc Ls (.int y :: .int x :: st))) := by
  subst hp; subst hz
  exact own_st (fun _ hr => XS.ior X.here hx rfl hd rfl hr) k
theorem own_ixor (X : Stand p l e R s m args below meth c T locs cells slots) (hx : p.tables.exec = Jvm.exec) {x y : Int32} (pc' : Nat) (hp : pc + 1 = pc') (hd : decode c.code pc = .ok (.ixor, 1)) (z : Int32) (hz : x ^^^ y = z) (k : own_Go p e below Fe Q (T.setTop (mkF m pc' Ls (.int z :: st)))) : own_Go p e below Fe Q (T.setTop (mkF m pc Ls (.int y :: .int x :: st))) := by
  subst hp; subst hz
  exact own_st (fun _ hr => XS.ixor X.here hx rfl hd rfl hr) k
theorem own_ineg (X : Stand p l e R s m args below meth c T locs cells slots) (hx : p.tables.exec = Jvm.exec) {x : Int32} (pc' : Nat) (hp : pc + 1 = pc') (hd : decode c.code pc = .ok (.ineg, 1)) (z : Int32) (hz : -x = z) (k : own_Go p e below Fe Q (T.setTop (mkF m pc' Ls (.int z :: st)))) : own_Go p e below Fe Q (T.setTop (mkF m pc Ls (.int x :: st))) := by
  subst hp; subst hz
  exact own_st (fun _ hr => XS.ineg X.here hx rfl hd rfl hr) k
theorem own_idiv (X : Stand p l e R s m args below meth c T locs cells slots) (hx : p.tables.exec = Jvm.exec) {x y : Int32} (pc' : Nat) (hp : pc + 1 = pc') (hd : decode c.code pc = .ok (.idiv, 1)) (hy : y ≠ 0) (z : Int32) (hz : x / y = z) (k : own_Go p e below Fe Q (T.setTop (mkF m pc' Ls (.int z :: st)))) : own_Go p e below Fe Q (T.setTop (mkF m pc Ls (.int y :: .int x :: st))) := by
  subst hp; subst hz
  exact own_st (fun _ hr => XS.idiv X.here hx rfl hd rfl hy hr) k
theorem own_ladd (X : Stand p l e R s m args below meth c T locs cells slots) (hx : p.tables.exec = Jvm.exec) {x y : Int64} (pc' : Nat) (hp : pc + 1 = pc') (hd : decode c.code pc = .ok (.ladd, 1)) (z : Int64) (hz : x + y = z) (k : own_Go p e below Fe Q (T.setTop (mkF m pc' Ls (.long z :: st)))) : own_Go p e below Fe Q (T.setTop (mkF m pc Ls (.long y :: .long x :: st))) := by
  subst hp; subst hz
  exact own_st (fun _ hr => XS.ladd X.here hx rfl hd rfl hr) k
theorem own_lsub (X : Stand p l e R s m args below meth c T locs cells slots) (hx : p.tables.exec = Jvm.exec) {x y : Int64} (pc' : Nat) (hp : pc + 1 = pc') (hd : decode c.code pc = .ok (.lsub, 1)) (z : Int64) (hz : x - y = z) (k : own_Go p e below Fe Q (T.setTop (mkF m pc' Ls (.long z :: st)))) : own_Go p e below Fe Q (T.setTop (mkF m pc Ls (.long y :: .long x :: st))) := by
  subst hp; subst hz
  exact own_st (fun _ hr => XS.lsub X.here hx rfl hd rfl hr) k
theorem own_lmul (X : Stand p l e R s m args below meth c T locs cells slots) (hx : p.tables.exec = Jvm.exec) {x y : Int64} (pc' : Nat) (hp : pc + 1 = pc') (hd : decode c.code pc = .ok (.lmul, 1)) (z : Int64) (hz : x * y = z) (k : own_Go p e below Fe Q (T.setTop (mkF m pc' Ls (.long z :: st)))) : own_Go p e below Fe Q (T.setTop (mkF m pc Ls (.long y :: .long x :: st))) := by
  subst hp; subst hz
  exact own_st (fun _ hr => XS.lmul X.here hx rfl hd rfl hr) k
theorem own_land (X : Stand p l e R s m args below meth c T locs cells slots) (hx : p.tables.exec = Jvm.exec) {x y : Int64} (pc' : Nat) (hp : pc + 1 = pc') (hd : decode c.code pc = .ok (.land, 1)) (z : Int64) (hz : x &&& y = z) (k : own_Go p e below Fe Q (T.setTop (mkF m pc' Ls (.long z :: st)))) : own_Go p e below Fe Q (T.setTop (mkF m pc Ls (.long y :: .long x :: st))) := by
  subst hp; subst hz
  exact own_st (fun _ hr => XS.land X.here hx rfl hd rfl hr) k
theorem own_lor (X : Stand p l e R s m args below meth c T locs cells slots) (hx : p.tables.exec = Jvm.exec) {x y : Int64} (pc' : Nat) (hp : pc + 1 = pc') (hd : decode c.code pc = .ok (.lor, 1)) (z : Int64) (hz : x ||| y = z) (k : own_Go p e below Fe Q (T.setTop (mkF m pc' Ls (.long z :: st)))) : own_Go p e below Fe Q (T.setTop (mkF m pc Ls (.long y :: .long x :: st))) := by
  subst hp; subst hz
  exact own_st (fun _ hr => XS.lor X.here hx rfl hd rfl hr) k
theorem own_lxor (X : Stand p l e R s m args below meth c T locs cells slots) (hx : p.tables.exec = Jvm.exec) {x y : Int64} (pc' : Nat) (hp : pc + 1 = pc') (hd : decode c.code pc = .ok (.lxor, 1)) (z : Int64) (hz : x ^^^ y = z) (k : own_Go p e below Fe Q (T.setTop (mkF m pc' Ls (.long z :: st)))) : own_Go p e below Fe Q (T.setTop (mkF m pc Ls (.long y :: .long x :: st))) := by
  subst hp; subst hz
  exact own_st (fun _ hr => XS.lxor X.here hx rfl hd rfl hr) k
theorem own_lneg (X : Stand p l e R s m args below meth c T locs cells slots) (hx : p.tables.exec = Jvm.exec) {x : Int64} (pc' : Nat) (hp : pc + 1 = pc') (hd : decode c.code pc = .ok (.lneg, 1)) (z : Int64) (hz : -x = z) (k : own_Go p e below Fe Q (T.setTop (mkF m pc' Ls (.long z :: st)))) : own_Go p e below Fe Q (T.setTop (mkF m pc Ls (.long x :: st))) := by
  subst hp; subst hz
  exact own_st (fun _ hr => XS.lneg X.here hx rfl hd rfl hr) k
theorem own_ldiv (X : Stand p l e R s m args below meth c T locs cells slots) (hx : p.tables.exec = Jvm.exec) {x y : Int64} (pc' : Nat) (hp : pc + 1 = pc') (hd : decode c.code pc = .ok (.ldiv, 1)) (hy : y ≠ 0) (z : Int64) (hz : x / y = z) (k : own_Go p e below Fe Q (T.setTop (mkF m pc' Ls (.long z :: st)))) : own_Go p e below Fe Q (T.setTop (mkF m pc Ls (.long y :: .long x :: st))) := by
  subst hp; subst hz
  exact own_st (fun _ hr => XS.ldiv X.here hx rfl hd rfl hy hr) k
theorem own_irem (X : Stand p l e R s m args below meth c T locs cells slots) (hx : p.tables.exec = Jvm.exec) {x y : Int32} (pc' : Nat) (hp : pc + 1 = pc') (hd : decode c.code pc = .ok (.irem, 1)) (hy : y ≠ 0) (z : Int32) (hz : x % y = z) (k : own_Go p e below Fe Q (T.setTop (mkF m pc' Ls (.int z :: st)))) : own_Go p e below Fe Q (T.setTop (mkF m pc Ls (.int y :: .int x :: st))) := by
  subst hp; subst hz
  exact own_st (fun _ hr => iremM (g := mkF m pc Ls (.int y :: .int x :: st)) X hx rfl hd rfl hy hr) k
theorem own_lrem (X : Stand p l e R s m args below meth c T locs cells slots) (hx : p.tables.exec = Jvm.exec) {x y : Int64} (pc' : Nat) (hp : pc + 1 = pc') (hd : decode c.code pc = .ok (.lrem, 1)) (hy : y ≠ 0) (z : Int64) (hz : x % y = z) (k : own_Go p e below Fe Q (T.setTop (mkF m pc' Ls (.long z :: st)))) : own_Go p e below Fe Q (T.setTop (mkF m pc Ls (.long y :: .long x :: st))) := by
  subst hp; subst hz
  exact own_st (fun _ hr => XS.lrem X.here hx rfl hd rfl hy (by rw [lrem_mod]; exact hr)) k
theorem own_ishl (X : Stand p l e R s m args below meth c T locs cells slots) (hx : p.tables.exec = Jvm.exec) {x : Int32} {y : Int32} (pc' : Nat) (hp : pc + 1 = pc') (hd : decode c.code pc = .ok (.ishl, 1)) (z : Int32) (hz : x <<< (y &&& 31) = z) (k : own_Go p e below Fe Q (T.setTop (mkF m pc' Ls (.int z :: st)))) : own_Go p e below Fe Q (T.setTop (mkF m pc Ls (.int y :: .int x :: st))) := by
  subst hp; subst hz
  exact own_st (fun _ hr => XS.ishl X.here hx rfl hd rfl hr) k
theorem own_ishr (X : Stand p l e R s m args below meth c T locs cells slots) (hx : p.tables.exec = Jvm.exec) {x : Int32} {y : Int32} (pc' : Nat) (hp : pc + 1 = pc') (hd : decode c.code pc = .ok (.ishr, 1)) (z : Int32) (hz : x >>> (y &&& 31) = z) (k : own_Go p e below Fe Q (T.setTop (mkF m pc' Ls (.int z :: st)))) : own_Go p e below Fe Q (T.setTop (mkF m pc Ls (.int y :: .int x :: st))) := by
  subst hp; subst hz
  exact own_st (fun _ hr => XS.ishr X.here hx rfl hd rfl hr) k
theorem own_iushr (X : Stand p l e R s m args below meth c T locs cells slots) (hx : p.tables.exec = Jvm.exec) {x : Int32} {y : Int32} (pc' : Nat) (hp : pc + 1 = pc') (hd : decode c.code pc = .ok (.iushr, 1)) (z : Int32) (hz : (x.toUInt32 >>> (y &&& 31).toUInt32).toInt32 = z) (k : own_Go p e below Fe Q (T.setTop (mkF m pc' Ls (.int z :: st)))) : own_Go p e below Fe Q (T.setTop (mkF m pc Ls (.int y :: .int x :: st))) := by
  subst hp; subst hz
  exact own_st (fun _ hr => XS.iushr X.here hx rfl hd rfl hr) k
theorem own_lshl (X : Stand p l e R s m args below meth c T locs cells slots) (hx : p.tables.exec = Jvm.exec) {x : Int64} {y : Int32} (pc' : Nat) (hp : pc + 1 = pc') (hd : decode c.code pc = .ok (.lshl, 1)) (z : Int64) (hz : x <<< (y &&& 0x3f).toInt64 = z) (k : own_Go p e below Fe Q (T.setTop (mkF m pc' Ls (.long z :: st)))) : own_Go p e below Fe Q (T.setTop (mkF m pc Ls (.int y :: .long x :: st))) := by
  subst hp; subst hz
  exact own_st (fun _ hr => XS.lshl X.here hx rfl hd rfl hr) k
theorem own_lshr (X : Stand p l e R s m args below meth c T locs cells slots) (hx : p.tables.exec = Jvm.exec) {x : Int64} {y : Int32} (pc' : Nat) (hp : pc + 1 = pc') (hd : decode c.code pc = .ok (.lshr, 1)) (z : Int64) (hz : x >>> (y &&& 0x3f).toInt64 = z) (k : own_Go p e below Fe Q (T.setTop (mkF m pc' Ls (.long z :: st)))) : own_Go p e below Fe Q (T.setTop (mkF m pc Ls (.int y :: .long x :: st))) := by
  subst hp; subst hz
  exact own_st (fun _ hr => XS.lshr X.here hx rfl hd rfl hr) k
theorem own_lushr (X : Stand p l e R s m args below meth c T locs cells slots) (hx : p.tables.exec = Jvm.exec) {x : Int64} {y : Int32} (pc' : Nat) (hp : pc + 1 = pc') (hd : decode c.code pc = .ok (.lushr, 1)) (z : Int64) (hz : (x.toUInt64 >>> (y &&& 0x3f).toInt64.toUInt64).toInt64 = z) (k : own_Go p e below Fe Q (T.setTop (mkF m pc' Ls (.long z :: st)))) : own_Go p e below Fe Q (T.setTop (mkF m pc Ls (.int y :: .long x :: st))) := by
  subst hp; subst hz
  exact own_st (fun _ hr => XS.lushr X.here hx rfl hd rfl hr) k
theorem own_i2l (X : Stand p l e R s m args below meth c T locs cells slots) (hx : p.tables.exec = Jvm.exec) {x : Int32} (pc' : Nat) (hp : pc + 1 = pc') (hd : decode c.code pc = .ok (.i2l, 1)) (z : Int64) (hz : x.toInt64 = z) (k : own_Go p e below Fe Q (T.setTop (mkF m pc' Ls (.long z :: st)))) : own_Go p e below Fe Q (T.setTop (mkF m pc Ls (.int x :: st))) := by
  subst hp; subst hz
  exact own_st (fun _ hr => XS.i2l X.here hx rfl hd rfl hr) k
theorem own_l2i (X : Stand p l e R s m args below meth c T locs cells slots) (hx : p.tables.exec = Jvm.exec) {x : Int64} (pc' : Nat) (hp : pc + 1 = pc') (hd : decode c.code pc = .ok (.l2i, 1)) (z : Int32) (hz : x.toInt32 = z) (k : own_Go p e below Fe Q (T.setTop (mkF m pc' Ls (.int z :: st)))) : own_Go p e below Fe Q (T.setTop (mkF m pc Ls (.long x :: st))) := by
  subst hp; subst hz
  exact own_st (fun _ hr => XS.l2i X.here hx rfl hd rfl hr) k
theorem own_i2b (X : Stand p l e R s m args below meth c T locs cells slots) (hx : p.tables.exec = Jvm.exec) {x : Int32} (pc' : Nat) (hp : pc + 1 = pc') (hd : decode c.code pc = .ok (.i2b, 1)) (z : Int32) (hz : x.toInt8.toInt32 = z) (k : own_Go p e below Fe Q (T.setTop (mkF m pc' Ls (.int z :: st)))) : own_Go p e below Fe Q (T.setTop (mkF m pc Ls (.int x :: st))) := by
  subst hp; subst hz
  exact own_st (fun _ hr => XS.i2b X.here hx rfl hd rfl hr) k
theorem own_i2s (X : Stand p l e R s m args below meth c T locs cells slots) (hx : p.tables.exec = Jvm.exec) {x : Int32} (pc' : Nat) (hp : pc + 1 = pc') (hd : decode c.code pc = .ok (.i2s, 1)) (z : Int32) (hz : x.toInt16.toInt32 = z) (k : own_Go p e below Fe Q (T.setTop (mkF m pc' Ls (.int z :: st)))) : own_Go p e below Fe Q (T.setTop (mkF m pc Ls (.int x :: st))) := by
  subst hp; subst hz
  exact own_st (fun _ hr => XS.i2s X.here hx rfl hd rfl hr) k
theorem own_i2c (X : Stand p l e R s m args below meth c T locs cells slots) (hx : p.tables.exec = Jvm.exec) {x : Int32} (pc' : Nat) (hp : pc + 1 = pc') (hd : decode c.code pc = .ok (.i2c, 1)) (z : Int32) (hz : x.toUInt32.toUInt16.toUInt32.toInt32 = z) (k : own_Go p e below Fe Q (T.setTop (mkF m pc' Ls (.int z :: st)))) : own_Go p e below Fe Q (T.setTop (mkF m pc Ls (.int x :: st))) := by
  subst hp; subst hz
  exact own_st (fun _ hr => XS.i2c X.here hx rfl hd rfl hr) k
theorem own_lcmp (X : Stand p l e R s m args below meth c T locs cells slots) (hx : p.tables.exec = Jvm.exec) {x y : Int64} (pc' : Nat) (hp : pc + 1 = pc') (hd : decode c.code pc = .ok (.lcmp, 1)) (z : Int32) (hz : lcmpW x y = z) (k : own_Go p e below Fe Q (T.setTop (mkF m pc' Ls (.int z :: st)))) : own_Go p e below Fe Q (T.setTop (mkF m pc Ls (.long y :: .long x :: st))) := by
  subst hp; subst hz
  exact own_st (fun _ hr => XS.lcmp X.here hx rfl hd rfl hr) k
theorem own_i2d (X : Stand p l e R s m args below meth c T locs cells slots) (hx : p.tables.exec = Jvm.exec) {x : Int32} (pc' : Nat) (hp : pc + 1 = pc') (hd : decode c.code pc = .ok (.i2d, 1)) (z : UInt64) (hz : FP.i2d x = z) (k : own_Go p e below Fe Q (T.setTop (mkF m pc' Ls (.double z :: st)))) : own_Go p e below Fe Q (T.setTop (mkF m pc Ls (.int x :: st))) := by
  subst hp
  exact own_st (fun _ hr => XS.i2dS X.here hx rfl hd rfl hz hr) k
theorem own_l2d (X : Stand p l e R s m args below meth c T locs cells slots) (hx : p.tables.exec = Jvm.exec) {x : Int64} (pc' : Nat) (hp : pc + 1 = pc') (hd : decode c.code pc = .ok (.l2d, 1)) (z : UInt64) (hz : FP.l2d x = z) (k : own_Go p e below Fe Q (T.setTop (mkF m pc' Ls (.double z :: st)))) : own_Go p e below Fe Q (T.setTop (mkF m pc Ls (.long x :: st))) := by
  subst hp
  exact own_st (fun _ hr => XS.l2dS X.here hx rfl hd rfl hz hr) k
theorem own_d2i (X : Stand p l e R s m args below meth c T locs cells slots) (hx : p.tables.exec = Jvm.exec) {x : UInt64} (pc' : Nat) (hp : pc + 1 = pc') (hd : decode c.code pc = .ok (.d2i, 1)) (z : Int32) (hz : FP.d2i x = z) (k : own_Go p e below Fe Q (T.setTop (mkF m pc' Ls (.int z :: st)))) : own_Go p e below Fe Q (T.setTop (mkF m pc Ls (.double x :: st))) := by
  subst hp
  exact own_st (fun _ hr => XS.d2iS X.here hx rfl hd rfl hz hr) k
theorem own_d2l (X : Stand p l e R s m args below meth c T locs cells slots) (hx : p.tables.exec = Jvm.exec) {x : UInt64} (pc' : Nat) (hp : pc + 1 = pc') (hd : decode c.code pc = .ok (.d2l, 1)) (z : Int64) (hz : FP.d2l x = z) (k : own_Go p e below Fe Q (T.setTop (mkF m pc' Ls (.long z :: st)))) : own_Go p e below Fe Q (T.setTop (mkF m pc Ls (.double x :: st))) := by
  subst hp
  exact own_st (fun _ hr => XS.d2lS X.here hx rfl hd rfl hz hr) k
theorem own_dneg (X : Stand p l e R s m args below meth c T locs cells slots) (hx : p.tables.exec = Jvm.exec) {x : UInt64} (pc' : Nat) (hp : pc + 1 = pc') (hd : decode c.code pc = .ok (.dneg, 1)) (z : UInt64) (hz : FP.dneg x = z) (k : own_Go p e below Fe Q (T.setTop (mkF m pc' Ls (.double z :: st)))) : own_Go p e below Fe Q (T.setTop (mkF m pc Ls (.double x :: st))) := by
  subst hp
  exact own_st (fun _ hr => XS.dnegS X.here hx rfl hd rfl hz hr) k
theorem own_dadd (X : Stand p l e R s m args below meth c T locs cells slots) (hx : p.tables.exec = Jvm.exec) {x y : UInt64} (pc' : Nat) (hp : pc + 1 = pc') (hd : decode c.code pc = .ok (.dadd, 1)) (hn : NoNaN64 (FP.dadd x y)) (z : UInt64) (hz : FP.dadd x y = z) (k : own_Go p e below Fe Q (T.setTop (mkF m pc' Ls (.double z :: st)))) : own_Go p e below Fe Q (T.setTop (mkF m pc Ls (.double y :: .double x :: st))) := by
  subst hp
  exact own_st (fun _ hr => XS.daddS X.here hx rfl hd rfl hn hz hr) k
theorem own_dsub (X : Stand p l e R s m args below meth c T locs cells slots) (hx : p.tables.exec = Jvm.exec) {x y : UInt64} (pc' : Nat) (hp : pc + 1 = pc') (hd : decode c.code pc = .ok (.dsub, 1)) (hn : NoNaN64 (FP.dsub x y)) (z : UInt64) (hz : FP.dsub x y = z) (k : own_Go p e below Fe Q (T.setTop (mkF m pc' Ls (.double z :: st)))) : own_Go p e below Fe Q (T.setTop (mkF m pc Ls (.double y :: .double x :: st))) := by
  subst hp
  exact own_st (fun _ hr => XS.dsubS X.here hx rfl hd rfl hn hz hr) k
theorem own_dmul (X : Stand p l e R s m args below meth c T locs cells slots) (hx : p.tables.exec = Jvm.exec) {x y : UInt64} (pc' : Nat) (hp : pc + 1 = pc') (hd : decode c.code pc = .ok (.dmul, 1)) (hn : NoNaN64 (FP.dmul x y)) (z : UInt64) (hz : FP.dmul x y = z) (k : own_Go p e below Fe Q (T.setTop (mkF m pc' Ls (.double z :: st)))) : own_Go p e below Fe Q (T.setTop (mkF m pc Ls (.double y :: .double x :: st))) := by
  subst hp
  exact own_st (fun _ hr => XS.dmulS X.here hx rfl hd rfl hn hz hr) k
theorem own_ddiv (X : Stand p l e R s m args below meth c T locs cells slots) (hx : p.tables.exec = Jvm.exec) {x y : UInt64} (pc' : Nat) (hp : pc + 1 = pc') (hd : decode c.code pc = .ok (.ddiv, 1)) (hn : NoNaN64 (FP.ddiv x y)) (z : UInt64) (hz : FP.ddiv x y = z) (k : own_Go p e below Fe Q (T.setTop (mkF m pc' Ls (.double z :: st)))) : own_Go p e below Fe Q (T.setTop (mkF m pc Ls (.double y :: .double x :: st))) := by
  subst hp
  exact own_st (fun _ hr => XS.ddivS X.here hx rfl hd rfl hn hz hr) k
theorem own_dcmp (X : Stand p l e R s m args below meth c T locs cells slots) (hx : p.tables.exec = Jvm.exec) {o : CmpOp} {x y : UInt64} (pc' : Nat) (hp : pc + 1 = pc') (hd : decode c.code pc = .ok (.dcmp o, 1)) (z : Int32) (hz : cmpValue (FP.dcmp x y) o = z) (k : own_Go p e below Fe Q (T.setTop (mkF m pc' Ls (.int z :: st)))) : own_Go p e below Fe Q (T.setTop (mkF m pc Ls (.double y :: .double x :: st))) := by
  subst hp
  exact own_st (fun _ hr => XS.dcmpS X.here hx rfl hd rfl hz hr) k
theorem own_iinc (X : Stand p l e R s m args below meth c T locs cells slots) (hx : p.tables.exec = Jvm.exec) {i : Nat} {cst : Int} {x : Int32} (pc' : Nat) (hp : pc + 3 = pc') (hd : decode c.code pc = .ok (.iinc i cst, 3)) (hl : Ls[i]? = some (.val (.int x))) (Ls' : Array Slot) (hl' : storeLocals Ls i (.int (x + Int32.ofInt cst)) = some Ls') (k : own_Go p e below Fe Q (T.setTop (mkF m pc' Ls' (st)))) : own_Go p e below Fe Q (T.setTop (mkF m pc Ls (st))) := by
  subst hp
  exact own_st (fun _ hr => XS.iinc X.here hx rfl hd hl hl' hr) k
theorem own_dup (X : Stand p l e R s m args below meth c T locs cells slots) (hx : p.tables.exec = Jvm.exec) {x : Value} (pc' : Nat) (hp : pc + 1 = pc') (hd : decode c.code pc = .ok (.dup, 1)) (hc : x.category = 1) (k : own_Go p e below Fe Q (T.setTop (mkF m pc' Ls (x :: x :: st)))) : own_Go p e below Fe Q (T.setTop (mkF m pc Ls (x :: st))) := by
  subst hp
  exact own_st (fun _ hr => XS.dup X.here hx rfl hd rfl hc hr) k
theorem own_dupX1 (X : Stand p l e R s m args below meth c T locs cells slots) (hx : p.tables.exec = Jvm.exec) {x y : Value} (pc' : Nat) (hp : pc + 1 = pc') (hd : decode c.code pc = .ok (.dup_x1, 1)) (hc : x.category = 1) (hc' : y.category = 1) (k : own_Go p e below Fe Q (T.setTop (mkF m pc' Ls (x :: y :: x :: st)))) : own_Go p e below Fe Q (T.setTop (mkF m pc Ls (x :: y :: st))) := by
  subst hp
  exact own_st (fun _ hr => XS.dupX1 X.here hx rfl hd rfl hc hc' hr) k
theorem own_pop (X : Stand p l e R s m args below meth c T locs cells slots) (hx : p.tables.exec = Jvm.exec) {x : Value} (pc' : Nat) (hp : pc + 1 = pc') (hd : decode c.code pc = .ok (.pop, 1)) (hc : x.category = 1) (k : own_Go p e below Fe Q (T.setTop (mkF m pc' Ls (st)))) : own_Go p e below Fe Q (T.setTop (mkF m pc Ls (x :: st))) := by
  subst hp
  exact own_st (fun _ hr => XS.pop X.here hx rfl hd rfl hc hr) k
theorem own_goto (X : Stand p l e R s m args below meth c T locs cells slots) (hx : p.tables.exec = Jvm.exec)  {o : Int} (pc' : Nat) (hd : decode c.code pc = .ok (.goto o, 3))  (ho : 0 ≤ (pc : Int) + o) (hp : ((pc : Int) + o).toNat = pc') (k : own_Go p e below Fe Q (T.setTop (mkF m pc' Ls (st)))) : own_Go p e below Fe Q (T.setTop (mkF m pc Ls (st))) :=
  own_st (fun _ hr => XS.goto X.here hx rfl rfl hd ho hp hr) k
theorem own_ifYes (X : Stand p l e R s m args below meth c T locs cells slots) (hx : p.tables.exec = Jvm.exec) {cd : ClassFile.Cond} {x : Int32} {o : Int} (pc' : Nat) (hd : decode c.code pc = .ok (.ifCond cd o, 3)) (hc : ifCond.holds cd x = true) (ho : 0 ≤ (pc : Int) + o) (hp : ((pc : Int) + o).toNat = pc') (k : own_Go p e below Fe Q (T.setTop (mkF m pc' Ls (st)))) : own_Go p e below Fe Q (T.setTop (mkF m pc Ls (.int x :: st))) :=
  own_st (fun _ hr => XS.ifYes X.here hx rfl rfl hd rfl hc ho hp hr) k
theorem own_icmpYes (X : Stand p l e R s m args below meth c T locs cells slots) (hx : p.tables.exec = Jvm.exec) {cd : ClassFile.Cond} {x y : Int32} {o : Int} (pc' : Nat) (hd : decode c.code pc = .ok (.if_icmp cd o, 3)) (hc : if_icmp.holds cd x y = true) (ho : 0 ≤ (pc : Int) + o) (hp : ((pc : Int) + o).toNat = pc') (k : own_Go p e below Fe Q (T.setTop (mkF m pc' Ls (st)))) : own_Go p e below Fe Q (T.setTop (mkF m pc Ls (.int y :: .int x :: st))) :=
  own_st (fun _ hr => XS.icmpYes X.here hx rfl rfl hd rfl hc ho hp hr) k
theorem own_ifnullYes (X : Stand p l e R s m args below meth c T locs cells slots) (hx : p.tables.exec = Jvm.exec)  {o : Int} (pc' : Nat) (hd : decode c.code pc = .ok (.ifnull o, 3))  (ho : 0 ≤ (pc : Int) + o) (hp : ((pc : Int) + o).toNat = pc') (k : own_Go p e below Fe Q (T.setTop (mkF m pc' Ls (st)))) : own_Go p e below Fe Q (T.setTop (mkF m pc Ls (.null :: st))) :=
  own_st (fun _ hr => XS.ifnullYes X.here hx rfl rfl hd rfl ho hp hr) k
theorem own_ifnonnullYes (X : Stand p l e R s m args below meth c T locs cells slots) (hx : p.tables.exec = Jvm.exec) {b : Addr} {o : Int} (pc' : Nat) (hd : decode c.code pc = .ok (.ifnonnull o, 3))  (ho : 0 ≤ (pc : Int) + o) (hp : ((pc : Int) + o).toNat = pc') (k : own_Go p e below Fe Q (T.setTop (mkF m pc' Ls (st)))) : own_Go p e below Fe Q (T.setTop (mkF m pc Ls (.ref b :: st))) :=
  own_st (fun _ hr => XS.ifnonnullYes X.here hx rfl rfl hd rfl ho hp hr) k
theorem own_ifNo (X : Stand p l e R s m args below meth c T locs cells slots) (hx : p.tables.exec = Jvm.exec) {cd : ClassFile.Cond} {o : Int} {x : Int32} (pc' : Nat) (hp : pc + 3 = pc') (hd : decode c.code pc = .ok (.ifCond cd o, 3)) (hc : ifCond.holds cd x = false) (k : own_Go p e below Fe Q (T.setTop (mkF m pc' Ls (st)))) : own_Go p e below Fe Q (T.setTop (mkF m pc Ls (.int x :: st))) := by
  subst hp
  exact own_st (fun _ hr => XS.ifNo X.here hx rfl hd rfl hc hr) k
theorem own_icmpNo (X : Stand p l e R s m args below meth c T locs cells slots) (hx : p.tables.exec = Jvm.exec) {cd : ClassFile.Cond} {o : Int} {x y : Int32} (pc' : Nat) (hp : pc + 3 = pc') (hd : decode c.code pc = .ok (.if_icmp cd o, 3)) (hc : if_icmp.holds cd x y = false) (k : own_Go p e below Fe Q (T.setTop (mkF m pc' Ls (st)))) : own_Go p e below Fe Q (T.setTop (mkF m pc Ls (.int y :: .int x :: st))) := by
  subst hp
  exact own_st (fun _ hr => XS.icmpNo X.here hx rfl hd rfl hc hr) k
theorem own_ifnullNo (X : Stand p l e R s m args below meth c T locs cells slots) (hx : p.tables.exec = Jvm.exec) {o : Int} {b : Addr} (pc' : Nat) (hp : pc + 3 = pc') (hd : decode c.code pc = .ok (.ifnull o, 3))  (k : own_Go p e below Fe Q (T.setTop (mkF m pc' Ls (st)))) : own_Go p e below Fe Q (T.setTop (mkF m pc Ls (.ref b :: st))) := by
  subst hp
  exact own_st (fun _ hr => XS.ifnullNo X.here hx rfl hd rfl hr) k
theorem own_ifnonnullNo (X : Stand p l e R s m args below meth c T locs cells slots) (hx : p.tables.exec = Jvm.exec) {o : Int} (pc' : Nat) (hp : pc + 3 = pc') (hd : decode c.code pc = .ok (.ifnonnull o, 3))  (k : own_Go p e below Fe Q (T.setTop (mkF m pc' Ls (st)))) : own_Go p e below Fe Q (T.setTop (mkF m pc Ls (.null :: st))) := by
  subst hp
  exact own_st (fun _ hr => XS.ifnonnullNo X.here hx rfl hd rfl hr) k
theorem own_acmp (X : Stand p l e R s m args below meth c T locs cells slots) (hx : p.tables.exec = Jvm.exec) {cd : ACond} {x y : Value} {o : Int} (same : Bool) (pc' : Nat) (hd : decode c.code pc = .ok (.if_acmp cd o, 3)) (h1 : x.isRef = true) (h2 : y.isRef = true) (hq : decide (x = y) = same) (ho : 0 ≤ (pc : Int) + o) (hp : pc' = if acV cd same = true then ((pc : Int) + o).toNat else pc + 3) (k : own_Go p e below Fe Q (T.setTop (mkF m pc' Ls st))) : own_Go p e below Fe Q (T.setTop (mkF m pc Ls (y :: x :: st))) :=
  own_st (fun _ hr => Jvm.RoadKit.acmp (g := mkF m pc Ls (y :: x :: st)) X hx rfl h1 h2 (pc0 := pc) (pc' := pc') (same := same) rfl hd rfl hq ho hp hr) k
theorem own_tsw (X : Stand p l e R s m args below meth c T locs cells slots) (hx : p.tables.exec = Jvm.exec) {dflt low high : Int} {offs : Array Int} {len : Nat} {i : Int32} {o : Int} (pc' : Nat) (hd : decode c.code pc = .ok (.tableswitch dflt low high offs, len)) (hin : ¬ (i.toInt < low ∨ i.toInt > high)) (hoff : offs[(i.toInt - low).toNat]? = some o) (ho : 0 ≤ (pc : Int) + o) (hp : ((pc : Int) + o).toNat = pc') (k : own_Go p e below Fe Q (T.setTop (mkF m pc' Ls st))) : own_Go p e below Fe Q (T.setTop (mkF m pc Ls (.int i :: st))) :=
  own_st (fun _ hr => XS.tswIn X.here hx rfl rfl hd rfl hin hoff ho hp hr) k
theorem own_ldcI (X : Stand p l e R s m args below meth c T locs cells slots) (hx : p.tables.exec = Jvm.exec) (hZ : Z.Warmed39 s.vm) {own : String} {index : Nat} (hown : s.vm.findClass own = some m.cls) {z : Int32} (w : (Jvm.Cond.constant own index z).before a0 Z = true) (pc' : Nat) (hp : pc + 2 = pc') (hd : decode c.code pc = .ok (.ldc index, 2)) (k : own_Go p e below Fe Q (T.setTop (mkF m pc' Ls (.int z :: st)))) : own_Go p e below Fe Q (T.setTop (mkF m pc Ls st)) := by
  subst hp
  exact own_st (X.ldcInt hx hown (mvT hZ w) (g := mkF m pc Ls st) rfl hd) k
theorem own_ldcWI (X : Stand p l e R s m args below meth c T locs cells slots) (hx : p.tables.exec = Jvm.exec) (hZ : Z.Warmed39 s.vm) {own : String} {index : Nat} (hown : s.vm.findClass own = some m.cls) {z : Int32} (w : (Jvm.Cond.constant own index z).before a0 Z = true) (pc' : Nat) (hp : pc + 3 = pc') (hd : decode c.code pc = .ok (.ldc_w index, 3)) (k : own_Go p e below Fe Q (T.setTop (mkF m pc' Ls (.int z :: st)))) : own_Go p e below Fe Q (T.setTop (mkF m pc Ls st)) := by
  subst hp
  exact own_st (X.ldcwInt hx hown (mvT hZ w) (g := mkF m pc Ls st) rfl hd) k
theorem own_ldcJ (X : Stand p l e R s m args below meth c T locs cells slots) (hx : p.tables.exec = Jvm.exec) (hZ : Z.Warmed39 s.vm) {own : String} {index : Nat} (hown : s.vm.findClass own = some m.cls) {z : Int64} (w : (Jvm.Cond.constantLong own index z).before a0 Z = true) (pc' : Nat) (hp : pc + 3 = pc') (hd : decode c.code pc = .ok (.ldc2_w index, 3)) (k : own_Go p e below Fe Q (T.setTop (mkF m pc' Ls (.long z :: st)))) : own_Go p e below Fe Q (T.setTop (mkF m pc Ls st)) := by
  subst hp
  exact own_st (X.ldc2Long hx hown (mvT hZ w) (g := mkF m pc Ls st) rfl hd) k
theorem own_ldcD (X : Stand p l e R s m args below meth c T locs cells slots) (hx : p.tables.exec = Jvm.exec) (hZ : Z.Warmed39 s.vm) {own : String} {index : Nat} (hown : s.vm.findClass own = some m.cls) {z : UInt64} (w : (Jvm.Cond.constantDouble own index z).before a0 Z = true) (pc' : Nat) (hp : pc + 3 = pc') (hd : decode c.code pc = .ok (.ldc2_w index, 3)) (k : own_Go p e below Fe Q (T.setTop (mkF m pc' Ls (.double z :: st)))) : own_Go p e below Fe Q (T.setTop (mkF m pc Ls st)) := by
  subst hp
  exact own_st (X.ldc2DoubleC hx hown (mvT hZ w) (g := mkF m pc Ls st) rfl hd) k
theorem own_getS (X : Stand p l e R s m args below meth c T locs cells slots) (hx : p.tables.exec = Jvm.exec) (hZ : Z.Warmed39 s.vm) {own R0 O n d host : String} {index : Nat} (hown : s.vm.findClass own = some m.cls) (w : (Jvm.Cond.fieldLink own index R0 n d).before a0 Z = true ∨ (Jvm.Cond.fieldLinkNest own index R0 n d host).before a0 Z = true) (via : Via Z R0 O n d) (eT : T.heap = h) {v : Value} (F : Sta Z h O n d v) (pc' : Nat) (hp : pc + 3 = pc') (hd : decode c.code pc = .ok (.getstatic index, 3))
    (k : ∀ T', Stand p l e R s m args below meth c T' locs cells slots → T'.heap = h → own_Go p e below Fe Q (T'.setTop (mkF m pc' Ls (v :: st)))) : own_Go p e below Fe Q (T.setTop (mkF m pc Ls st)) := by
  subst hp
  obtain ⟨T', X', e', st'⟩ := getS2 X hx hZ hown w via eT F (g := mkF m pc Ls st) rfl hd
  exact own_st st' (k T' X' e')
theorem own_getF (X : Stand p l e R s m args below meth c T locs cells slots) (hx : p.tables.exec = Jvm.exec) (hZ : Z.Warmed39 s.vm) {own R0 O n d host : String} {index : Nat} (hown : s.vm.findClass own = some m.cls) (w : (Jvm.Cond.fieldLink own index R0 n d).before a0 Z = true ∨ (Jvm.Cond.fieldLinkNest own index R0 n d host).before a0 Z = true) (via : Via Z R0 O n d) (eT : T.heap = h) {a : Addr} {v : Value} (F : Fld Z h a O n d v) (pc' : Nat) (hp : pc + 3 = pc') (hd : decode c.code pc = .ok (.getfield index, 3))
    (k : ∀ T', Stand p l e R s m args below meth c T' locs cells slots → T'.heap = h → own_Go p e below Fe Q (T'.setTop (mkF m pc' Ls (v :: st)))) : own_Go p e below Fe Q (T.setTop (mkF m pc Ls (.ref a :: st))) := by
  subst hp
  obtain ⟨T', X', e', st'⟩ := getF X hx hZ hown w via eT F (g := mkF m pc Ls (.ref a :: st)) rfl rfl hd
  exact own_st st' (k T' X' e')
theorem own_putF (X : Stand p l e R s m args below meth c T locs cells slots) (hx : p.tables.exec = Jvm.exec) (hZ : Z.Warmed39 s.vm) {own R0 O n d host C : String} {index kk : Nat} {ty : FieldType} (hown : s.vm.findClass own = some m.cls) (w : (Jvm.Cond.fieldLink own index R0 n d).before a0 Z = true ∨ (Jvm.Cond.fieldLinkNest own index R0 n d host).before a0 Z = true) (via : Via Z R0 O n d) (eT : T.heap = h) {a : Addr} {v old : Value} (F : Fld Z h a O n d old) (E : Exa Z h a C)
    (L : (Jvm.Cond.lays C O n d).before a0 Z = true ∨ ((Jvm.Cond.laysFinal C O n d).before a0 Z = true ∧ own = O ∧ meth.name = "<init>")) (wi : (Jvm.Cond.instantiable C kk).before a0 Z = true) (hty : parseFieldDescriptor d = some ty) (hn : narrow ty v = v) (hf : Jvm.fits ty v = true) (pc' : Nat) (hp : pc + 3 = pc') (hd : decode c.code pc = .ok (.putfield index, 3))
    (k : ∀ T' h', Stand p l e R s m args below meth c T' (locs ++ [⟨a, Jvm.RoadKit.slotOf Z O n d⟩]) cells slots → T'.heap = h' → Wr h h' a (Jvm.RoadKit.slotOf Z O n d) v → own_Go p e below Fe Q (T'.setTop (mkF m pc' Ls st))) : own_Go p e below Fe Q (T.setTop (mkF m pc Ls (v :: .ref a :: st))) := by
  subst hp
  obtain ⟨T', h', X', e', W', st'⟩ := putF X hx hZ hown w via eT F E L wi hty hn hf (g := mkF m pc Ls (v :: .ref a :: st)) rfl rfl hd
  exact own_st st' (k T' h' X' e' W')
theorem own_putFN (X : Stand p l e R s m args below meth c T locs cells slots) (hx : p.tables.exec = Jvm.exec) (hZ : Z.Warmed39 s.vm) {own R0 O n d C : String} {index kk : Nat} {ty : FieldType} (hown : s.vm.findClass own = some m.cls) (w : (Jvm.Cond.fieldLink own index R0 n d).before a0 Z = true) (via : Via Z R0 O n d) (eT : T.heap = h) {a : Addr} {v v' old : Value} (F : Fld Z h a O n d old) (E : Exa Z h a C)
    (L : (Jvm.Cond.lays C O n d).before a0 Z = true ∨ ((Jvm.Cond.laysFinal C O n d).before a0 Z = true ∧ own = O ∧ meth.name = "<init>")) (wi : (Jvm.Cond.instantiable C kk).before a0 Z = true) (hty : parseFieldDescriptor d = some ty) (hn : narrow ty v = v') (hf : Jvm.fits ty v' = true) (pc' : Nat) (hp : pc + 3 = pc') (hd : decode c.code pc = .ok (.putfield index, 3))
    (k : ∀ T' h', Stand p l e R s m args below meth c T' (locs ++ [⟨a, Jvm.RoadKit.slotOf Z O n d⟩]) cells slots → T'.heap = h' → Wr h h' a (Jvm.RoadKit.slotOf Z O n d) v' → own_Go p e below Fe Q (T'.setTop (mkF m pc' Ls st))) : own_Go p e below Fe Q (T.setTop (mkF m pc Ls (v :: .ref a :: st))) := by
  subst hp
  obtain ⟨T', h', X', e', W', st'⟩ := putFN X hx hZ hown w via eT F E L wi hty hn hf (g := mkF m pc Ls (v :: .ref a :: st)) rfl rfl hd
  exact own_st st' (k T' h' X' e' W')
theorem own_new (X : Stand p l e R s m args below meth c T locs cells slots) (hx : p.tables.exec = Jvm.exec) (hZ : Z.Warmed39 s.vm) {own C : String} {index n : Nat} (hown : s.vm.findClass own = some m.cls) (w : (Jvm.Cond.classLink own index C).before a0 Z = true) (wi : (Jvm.Cond.instantiable C n).before a0 Z = true) (wz : (Jvm.Cond.initialized C).before a0 Z = true) (eT : T.heap = h) (pc' : Nat) (hp : pc + 3 = pc') (hd : decode c.code pc = .ok (.new index, 3)) (hc : cells + 1 ≤ R.cells) (hl : slots + n ≤ R.slots)
    (k : ∀ T' h' b, b = h.size → Stand p l e R s m args below meth c T' locs (cells + 1) (slots + n) → T'.heap = h' → Ext h h' → Exa Z h' b C → (∀ {O nm d : String} {ty : FieldType}, Laid Z a0 C O nm d → parseFieldDescriptor d = some ty → Fld Z h' b O nm d (defaultValue ty)) → own_Go p e below Fe Q (T'.setTop (mkF m pc' Ls (.ref b :: st)))) : own_Go p e below Fe Q (T.setTop (mkF m pc Ls st)) := by
  subst hp
  obtain ⟨T', h', X', e', E', A', D', -, st'⟩ := newO X hx hZ hown w wi wz eT (g := mkF m pc Ls st) rfl hd hc hl
  exact own_st st' (k T' h' _ rfl X' e' E' A' D')
theorem own_newA (X : Stand p l e R s m args below meth c T locs cells slots) (hx : p.tables.exec = Jvm.exec) (hZ : Z.Warmed39 s.vm) {aty : ArrayType} (w : (Jvm.Cond.arrayClass (newarray.typeOf aty)).before a0 Z = true) (eT : T.heap = h) {n : Int32} (pc' : Nat) (hp : pc + 2 = pc') (hd : decode c.code pc = .ok (.newarray aty, 2)) (hn : ¬ n < 0) (cap : Nat) (hcap : n.toNatClampNeg ≤ cap) (hb : cap * 8 ≤ 536870912) (hc : cells + 1 ≤ R.cells) (hl : slots + cap ≤ R.slots) (ad : String) (had : "[" ++ (newarray.typeOf aty).toString = ad)
    (k : ∀ T' h' cA b, b = h.size → Stand p l e R s m args below meth c T' locs (cells + 1) (slots + cap) → T'.heap = h' → Ext h h' → Arr Z h' b (newA cA (newarray.typeOf aty) n) (newarray.typeOf aty) → Exa Z h' b ad → own_Go p e below Fe Q (T'.setTop (mkF m pc' Ls (.ref b :: st)))) : own_Go p e below Fe Q (T.setTop (mkF m pc Ls (.int n :: st))) := by
  subst hp
  obtain ⟨T', h', cA, X', e', E', A', C', st'⟩ := newPE X hx hZ w eT (g := mkF m pc Ls (.int n :: st)) rfl hd rfl hn hcap hb hc hl had
  exact own_st st' (k T' h' cA _ rfl X' e' E' A' C')
theorem own_stI (X : Stand p l e R s m args below meth c T locs cells slots) (hx : p.tables.exec = Jvm.exec) (hZ : Z.Warmed39 s.vm) (eT : T.heap = h) {a : Addr} {kA : ClassId} {n : Int32} {vs : List Value} {dv : Value} (F : Arv Z h a kA .int n vs dv) {j : Int32} {x : Int32} (hj : ¬ j < 0 ∧ j < n) (i : Nat) (hi : j.toNatClampNeg = i) (hl : i < vs.length) (vs' : List Value) (hvs : vs.set i (.int x) = vs') (pc' : Nat) (hp : pc + 1 = pc') (hd : decode c.code pc = .ok (.iastore, 1))
    (k : ∀ T' h', Stand p l e R s m args below meth c T' (locs ++ [⟨a, j.toNatClampNeg⟩]) cells slots → T'.heap = h' → Wr h h' a j.toNatClampNeg (.int x) → Arv Z h' a kA .int n vs' dv → own_Go p e below Fe Q (T'.setTop (mkF m pc' Ls st))) : own_Go p e below Fe Q (T.setTop (mkF m pc Ls (.int x :: .int j :: .ref a :: st))) := by
  subst hp; subst hvs
  obtain ⟨cl, Ar, q, S, N1, H, G⟩ := F
  have hin := inb_of S hj
  obtain ⟨T', h', X', e', W', st'⟩ := stI X hx hZ eT Ar (j := j) hin (g := mkF m pc Ls (.int x :: .int j :: .ref a :: st)) rfl rfl hd
  exact own_st st' (k T' h' X' e' W' (Arv.set Ar q S N1 H G rfl W' i hi hl))
theorem own_stJ (X : Stand p l e R s m args below meth c T locs cells slots) (hx : p.tables.exec = Jvm.exec) (hZ : Z.Warmed39 s.vm) (eT : T.heap = h) {a : Addr} {kA : ClassId} {n : Int32} {vs : List Value} {dv : Value} (F : Arv Z h a kA .long n vs dv) {j : Int32} {x : Int64} (hj : ¬ j < 0 ∧ j < n) (i : Nat) (hi : j.toNatClampNeg = i) (hl : i < vs.length) (vs' : List Value) (hvs : vs.set i (.long x) = vs') (pc' : Nat) (hp : pc + 1 = pc') (hd : decode c.code pc = .ok (.lastore, 1))
    (k : ∀ T' h', Stand p l e R s m args below meth c T' (locs ++ [⟨a, j.toNatClampNeg⟩]) cells slots → T'.heap = h' → Wr h h' a j.toNatClampNeg (.long x) → Arv Z h' a kA .long n vs' dv → own_Go p e below Fe Q (T'.setTop (mkF m pc' Ls st))) : own_Go p e below Fe Q (T.setTop (mkF m pc Ls (.long x :: .int j :: .ref a :: st))) := by
  subst hp; subst hvs
  obtain ⟨cl, Ar, q, S, N1, H, G⟩ := F
  have hin := inb_of S hj
  obtain ⟨T', h', X', e', W', st'⟩ := stJ X hx hZ eT Ar (j := j) hin (g := mkF m pc Ls (.long x :: .int j :: .ref a :: st)) rfl rfl hd
  exact own_st st' (k T' h' X' e' W' (Arv.set Ar q S N1 H G rfl W' i hi hl))
theorem own_stD (X : Stand p l e R s m args below meth c T locs cells slots) (hx : p.tables.exec = Jvm.exec) (hZ : Z.Warmed39 s.vm) (eT : T.heap = h) {a : Addr} {kA : ClassId} {n : Int32} {vs : List Value} {dv : Value} (F : Arv Z h a kA .double n vs dv) {j : Int32} {x : UInt64} (hj : ¬ j < 0 ∧ j < n) (i : Nat) (hi : j.toNatClampNeg = i) (hl : i < vs.length) (vs' : List Value) (hvs : vs.set i (.double x) = vs') (pc' : Nat) (hp : pc + 1 = pc') (hd : decode c.code pc = .ok (.dastore, 1))
    (k : ∀ T' h', Stand p l e R s m args below meth c T' (locs ++ [⟨a, j.toNatClampNeg⟩]) cells slots → T'.heap = h' → Wr h h' a j.toNatClampNeg (.double x) → Arv Z h' a kA .double n vs' dv → own_Go p e below Fe Q (T'.setTop (mkF m pc' Ls st))) : own_Go p e below Fe Q (T.setTop (mkF m pc Ls (.double x :: .int j :: .ref a :: st))) := by
  subst hp; subst hvs
  obtain ⟨cl, Ar, q, S, N1, H, G⟩ := F
  have hin := inb_of S hj
  obtain ⟨T', h', X', e', W', st'⟩ := stD X hx hZ eT Ar (j := j) hin (g := mkF m pc Ls (.double x :: .int j :: .ref a :: st)) rfl rfl hd
  exact own_st st' (k T' h' X' e' W' (Arv.set Ar q S N1 H G rfl W' i hi hl))
theorem own_stB (X : Stand p l e R s m args below meth c T locs cells slots) (hx : p.tables.exec = Jvm.exec) (hZ : Z.Warmed39 s.vm) (eT : T.heap = h) {a : Addr} {kA : ClassId} {n : Int32} {vs : List Value} {dv : Value} (F : Arv Z h a kA .byte n vs dv) {j : Int32} {x : Int32} (hj : ¬ j < 0 ∧ j < n) (i : Nat) (hi : j.toNatClampNeg = i) (hl : i < vs.length) (vs' : List Value) (hvs : vs.set i (.int x.toInt8.toInt32) = vs') (pc' : Nat) (hp : pc + 1 = pc') (hd : decode c.code pc = .ok (.bastore, 1))
    (k : ∀ T' h', Stand p l e R s m args below meth c T' (locs ++ [⟨a, j.toNatClampNeg⟩]) cells slots → T'.heap = h' → Wr h h' a j.toNatClampNeg (.int x.toInt8.toInt32) → Arv Z h' a kA .byte n vs' dv → own_Go p e below Fe Q (T'.setTop (mkF m pc' Ls st))) : own_Go p e below Fe Q (T.setTop (mkF m pc Ls (.int x :: .int j :: .ref a :: st))) := by
  subst hp; subst hvs
  obtain ⟨cl, Ar, q, S, N1, H, G⟩ := F
  have hin := inb_of S hj
  obtain ⟨T', h', X', e', W', st'⟩ := stB X hx hZ eT Ar (j := j) hin (g := mkF m pc Ls (.int x :: .int j :: .ref a :: st)) rfl rfl hd
  exact own_st st' (k T' h' X' e' W' (Arv.set Ar q S N1 H G (fits_nar_byte x) W' i hi hl))
theorem own_stZ (X : Stand p l e R s m args below meth c T locs cells slots) (hx : p.tables.exec = Jvm.exec) (hZ : Z.Warmed39 s.vm) (eT : T.heap = h) {a : Addr} {kA : ClassId} {n : Int32} {vs : List Value} {dv : Value} (F : Arv Z h a kA .boolean n vs dv) {j : Int32} {x : Int32} (hj : ¬ j < 0 ∧ j < n) (i : Nat) (hi : j.toNatClampNeg = i) (hl : i < vs.length) (vs' : List Value) (hvs : vs.set i (.int (nar .boolean x)) = vs') (pc' : Nat) (hp : pc + 1 = pc') (hd : decode c.code pc = .ok (.bastore, 1))
    (k : ∀ T' h', Stand p l e R s m args below meth c T' (locs ++ [⟨a, j.toNatClampNeg⟩]) cells slots → T'.heap = h' → Wr h h' a j.toNatClampNeg (.int (nar .boolean x)) → Arv Z h' a kA .boolean n vs' dv → own_Go p e below Fe Q (T'.setTop (mkF m pc' Ls st))) : own_Go p e below Fe Q (T.setTop (mkF m pc Ls (.int x :: .int j :: .ref a :: st))) := by
  subst hp; subst hvs
  obtain ⟨cl, Ar, q, S, N1, H, G⟩ := F
  have hin := inb_of S hj
  obtain ⟨T', h', X', e', W', st'⟩ := stZ X hx hZ eT Ar (j := j) hin (g := mkF m pc Ls (.int x :: .int j :: .ref a :: st)) rfl rfl hd
  exact own_st st' (k T' h' X' e' W' (Arv.set Ar q S N1 H G (fits_nar_bool x) W' i hi hl))
theorem own_stC (X : Stand p l e R s m args below meth c T locs cells slots) (hx : p.tables.exec = Jvm.exec) (hZ : Z.Warmed39 s.vm) (eT : T.heap = h) {a : Addr} {kA : ClassId} {n : Int32} {vs : List Value} {dv : Value} (F : Arv Z h a kA .char n vs dv) {j : Int32} {x : Int32} (hj : ¬ j < 0 ∧ j < n) (i : Nat) (hi : j.toNatClampNeg = i) (hl : i < vs.length) (vs' : List Value) (hvs : vs.set i (.int (nar .char x)) = vs') (pc' : Nat) (hp : pc + 1 = pc') (hd : decode c.code pc = .ok (.castore, 1))
    (k : ∀ T' h', Stand p l e R s m args below meth c T' (locs ++ [⟨a, j.toNatClampNeg⟩]) cells slots → T'.heap = h' → Wr h h' a j.toNatClampNeg (.int (nar .char x)) → Arv Z h' a kA .char n vs' dv → own_Go p e below Fe Q (T'.setTop (mkF m pc' Ls st))) : own_Go p e below Fe Q (T.setTop (mkF m pc Ls (.int x :: .int j :: .ref a :: st))) := by
  subst hp; subst hvs
  obtain ⟨cl, Ar, q, S, N1, H, G⟩ := F
  have hin := inb_of S hj
  obtain ⟨T', h', X', e', W', st'⟩ := stC X hx hZ eT Ar (j := j) hin (g := mkF m pc Ls (.int x :: .int j :: .ref a :: st)) rfl rfl hd
  exact own_st st' (k T' h' X' e' W' (Arv.set Ar q S N1 H G (fits_nar_char x) W' i hi hl))
theorem own_ldI (X : Stand p l e R s m args below meth c T locs cells slots) (hx : p.tables.exec = Jvm.exec) (hZ : Z.Warmed39 s.vm) (eT : T.heap = h) {a : Addr} {kA : ClassId} {n : Int32} {vs : List Value} {dv : Value} (F : Arv Z h a kA .int n vs dv) {j : Int32} (hj : ¬ j < 0 ∧ j < n) (x : Int32) (hv : vs.getD j.toNatClampNeg dv = (.int x)) (pc' : Nat) (hp : pc + 1 = pc') (hd : decode c.code pc = .ok (.iaload, 1))
    (k : own_Go p e below Fe Q (T.setTop (mkF m pc' Ls (.int x :: st)))) : own_Go p e below Fe Q (T.setTop (mkF m pc Ls (.int j :: .ref a :: st))) := by
  subst hp
  obtain ⟨cl, Ar, q, S, N1, H, G⟩ := F
  have hin := inb_of S hj
  exact own_st (X.iaload hx (j := j) (v := .int x) (by rw [eT]; exact Ar.1) (State.isArrayOf_alike hZ.alike Ar.2.1) Ar.2.2 hin (Has.at H hin hv) (g := mkF m pc Ls (.int j :: .ref a :: st)) rfl rfl hd) k
theorem own_ldD (X : Stand p l e R s m args below meth c T locs cells slots) (hx : p.tables.exec = Jvm.exec) (hZ : Z.Warmed39 s.vm) (eT : T.heap = h) {a : Addr} {kA : ClassId} {n : Int32} {vs : List Value} {dv : Value} (F : Arv Z h a kA .double n vs dv) {j : Int32} (hj : ¬ j < 0 ∧ j < n) (x : UInt64) (hv : vs.getD j.toNatClampNeg dv = (.double x)) (pc' : Nat) (hp : pc + 1 = pc') (hd : decode c.code pc = .ok (.daload, 1))
    (k : own_Go p e below Fe Q (T.setTop (mkF m pc' Ls (.double x :: st)))) : own_Go p e below Fe Q (T.setTop (mkF m pc Ls (.int j :: .ref a :: st))) := by
  subst hp
  obtain ⟨cl, Ar, q, S, N1, H, G⟩ := F
  have hin := inb_of S hj
  exact own_st (X.daload hx (j := j) (v := .double x) (by rw [eT]; exact Ar.1) (State.isArrayOf_alike hZ.alike Ar.2.1) Ar.2.2 hin (Has.at H hin hv) (g := mkF m pc Ls (.int j :: .ref a :: st)) rfl rfl hd) k
theorem own_ldJ (X : Stand p l e R s m args below meth c T locs cells slots) (hx : p.tables.exec = Jvm.exec) (hZ : Z.Warmed39 s.vm) (eT : T.heap = h) {a : Addr} {kA : ClassId} {n : Int32} {vs : List Value} {dv : Value} (F : Arv Z h a kA .long n vs dv) {j : Int32} (hj : ¬ j < 0 ∧ j < n) (x : Int64) (hv : vs.getD j.toNatClampNeg dv = (.long x)) (pc' : Nat) (hp : pc + 1 = pc') (hd : decode c.code pc = .ok (.laload, 1))
    (k : own_Go p e below Fe Q (T.setTop (mkF m pc' Ls (.long x :: st)))) : own_Go p e below Fe Q (T.setTop (mkF m pc Ls (.int j :: .ref a :: st))) := by
  subst hp
  obtain ⟨cl, Ar, q, S, N1, H, G⟩ := F
  have hin := inb_of S hj
  exact own_st (X.laload hx (j := j) (v := .long x) (by rw [eT]; exact Ar.1) (State.isArrayOf_alike hZ.alike Ar.2.1) Ar.2.2 hin (Has.at H hin hv) (g := mkF m pc Ls (.int j :: .ref a :: st)) rfl rfl hd) k
theorem own_len (X : Stand p l e R s m args below meth c T locs cells slots) (hx : p.tables.exec = Jvm.exec) (hZ : Z.Warmed39 s.vm) (eT : T.heap = h) {a : Addr} {kA : ClassId} {ty : FieldType} {n : Int32} {vs : List Value} {dv : Value} (F : Arv Z h a kA ty n vs dv) (pc' : Nat) (hp : pc + 1 = pc') (hd : decode c.code pc = .ok (.arraylength, 1))
    (k : own_Go p e below Fe Q (T.setTop (mkF m pc' Ls (.int n :: st)))) : own_Go p e below Fe Q (T.setTop (mkF m pc Ls (.ref a :: st))) := by
  subst hp
  obtain ⟨cl, Ar, q, S, N1, H, G⟩ := F
  refine own_st (X.arraylength hx (by rw [eT]; exact Ar.1) (State.isArrayOf_alike hZ.alike Ar.2.1) (g := mkF m pc Ls (.ref a :: st)) rfl rfl hd) ?_
  rw [len_of S N1]
  exact k
theorem own_initO (X : Stand p l e R s m args below meth c T locs cells slots) (hx : p.tables.exec = Jvm.exec) (hZ : Z.Warmed39 s.vm) {own : String} {idx : Nat} (hown : s.vm.findClass own = some m.cls) (w1 : (Jvm.Cond.methodLink own idx Lib.objectInit).before a0 Z = true) (w2 : (Jvm.Cond.instanceMethod Lib.objectInit).before a0 Z = true) (w3 : (Jvm.Cond.code Lib.objectInit ⟨#[0xb1]⟩ 1 none).before a0 Z = true) (eT : T.heap = h) (hsize : Ls.size = c.maxLocals) {a : Addr} (pc' : Nat) (hp : pc + 3 = pc') (hd : decode c.code pc = .ok (.invokespecial idx, 3)) (hf : 1 ≤ R.frames) (W : Nat) (hW : 2 * 0 + (st.map fun v => v.category).sum ≤ W) (hl : W + 12 ≤ R.locals)
    (k : ∀ T', Stand p l e R s m args below meth c T' locs cells slots → T'.heap = h → own_Go p e below Fe Q (T'.setTop (mkF m pc' Ls st))) : own_Go p e below Fe Q (T.setTop (mkF m pc Ls (.ref a :: st))) := by
  subst hp
  obtain ⟨T', X', e', st'⟩ := initO X hx hZ hown w1 w2 w3 eT (g := mkF m pc Ls (.ref a :: st)) rfl hsize rfl hd hf hW hl
  exact own_st st' (k T' X' e')
theorem own_callS (X : Stand p l e R s m args below meth c T locs cells slots) (hx : p.tables.exec = Jvm.exec) (hZ : Z.Warmed39 s.vm) {own : String} {index : Nat} {y : MethodName} (hown : s.vm.findClass own = some m.cls) (w1 : (Jvm.Cond.methodLink own index y).before a0 Z = true) (w2 : (Jvm.Cond.static y).before a0 Z = true) (hy : y.cls ≠ "java/lang/invoke/MethodHandle" ∧ y.cls ≠ "java/lang/invoke/VarHandle") {bytes : ByteArray} {maxL : Nat} {ret : Option FieldType} {rm : Room} {as' : Array Value} {Q' : Option Value → Heap → List Loc → Prop} (hM : MetFree l y (head1 [Jvm.Cond.code y bytes maxL ret] rm) (fun a U => a = as' ∧ Z.Warmed39 U.vm ∧ U.heap = h) (fun _ _ _ _ _ => True) (fun _ U o U' => ∃ v L, o = .returned v ∧ Q' v U'.heap L ∧ FrameEnd U o U' L rm.cells rm.slots)) (wc : (Jvm.Cond.code y bytes maxL ret).before a0 Z = true) (wz : (Jvm.Cond.initialized y.cls).before a0 Z = true) (hfr : rm.frames + 1 ≤ R.frames) (eT : T.heap = h) (hsize : Ls.size = c.maxLocals) (argsL : List Value) {rest : List Value} (W : Nat) (hlo : W + (maxL + 11) + rm.locals ≤ R.locals) (hW : 2 * 0 + (rest.map fun v => v.category).sum ≤ W) (hcells : cells + rm.cells ≤ R.cells) (hslots : slots + rm.slots ≤ R.slots) (hlen : ∀ sig, parseMethodDescriptor y.desc = some sig → argsL.length = sig.parameters.length) (hst : st = argsL.reverse ++ rest) (has : argsL.toArray = as') (pc' : Nat) (hp : pc + 3 = pc') (hd : decode c.code pc = .ok (.invokestatic index, 3))
    (k : ∀ v T' Lc, Stand p l e R s m args below meth c T' (locs ++ Lc) (cells + rm.cells) (slots + rm.slots) → Q' v T'.heap Lc → own_Go p e below Fe Q (T'.setTop (mkF m pc' Ls (v.toList ++ rest)))) : own_Go p e below Fe Q (T.setTop (mkF m pc Ls st)) := by
  subst hp
  obtain ⟨v, _, ⟨T', L', k', n'⟩, -, X', ⟨Lc, hQ, l1, l2, l3⟩, st'⟩ := Jvm.LawKit.callS X hx (y := y) hown (mvT hZ w1) (mvT hZ w2) (mvT hZ wz) (mvT hZ wc) hy (backOf (W := W) hM hZ wc wz hfr hlo) (g := mkF m pc Ls st) rfl hsize (argsL := argsL) (rest := rest) hlen hst hW hd (fun _ _ => ⟨has, eT, hcells, hslots⟩)
  dsimp only [Pt.U, Pt.locs, Pt.cells, Pt.slots] at X' l1 l2 l3 st' hQ
  subst l1 l2 l3
  exact own_st st' (k v T' Lc X' hQ)
theorem own_special (X : Stand p l e R s m args below meth c T locs cells slots) (hx : p.tables.exec = Jvm.exec) (hZ : Z.Warmed39 s.vm) {own : String} {index : Nat} {y : MethodName} (hown : s.vm.findClass own = some m.cls) (hy1 : y.name = "<init>") (w1 : (Jvm.Cond.methodLink own index y).before a0 Z = true) (w2 : (Jvm.Cond.instanceMethod y).before a0 Z = true) {a : Addr} (hy : y.cls ≠ "java/lang/invoke/MethodHandle" ∧ y.cls ≠ "java/lang/invoke/VarHandle") {bytes : ByteArray} {maxL : Nat} {ret : Option FieldType} {rm : Room} {as' : Array Value} {Q' : Option Value → Heap → List Loc → Prop} (hret : ret = none) (hM : MetFree l y (head1 [Jvm.Cond.code y bytes maxL ret] rm) (fun a U => a = as' ∧ Z.Warmed39 U.vm ∧ U.heap = h) (fun _ _ _ _ _ => True) (fun _ U o U' => ∃ v L, o = .returned v ∧ Q' v U'.heap L ∧ FrameEnd U o U' L rm.cells rm.slots)) (wc : (Jvm.Cond.code y bytes maxL ret).before a0 Z = true) (wz : (Jvm.Cond.initialized y.cls).before a0 Z = true) (hfr : rm.frames + 1 ≤ R.frames) (eT : T.heap = h) (hsize : Ls.size = c.maxLocals) (argsL : List Value) {rest : List Value} (W : Nat) (hlo : W + (maxL + 11) + rm.locals ≤ R.locals) (hW : 2 * 0 + (rest.map fun v => v.category).sum ≤ W) (hcells : cells + rm.cells ≤ R.cells) (hslots : slots + rm.slots ≤ R.slots) (hlen : ∀ sig, parseMethodDescriptor y.desc = some sig → argsL.length = sig.parameters.length) (hst : st = argsL.reverse ++ .ref a :: rest) (has : (.ref a :: argsL).toArray = as') (pc' : Nat) (hp : pc + 3 = pc') (hd : decode c.code pc = .ok (.invokespecial index, 3))
    (k : ∀ v T' Lc, Stand p l e R s m args below meth c T' (locs ++ Lc) (cells + rm.cells) (slots + rm.slots) → Q' v T'.heap Lc → own_Go p e below Fe Q (T'.setTop (mkF m pc' Ls (v.toList ++ rest)))) : own_Go p e below Fe Q (T.setTop (mkF m pc Ls st)) := by
  subst hp
  obtain ⟨v, _, ⟨T', L', k', n'⟩, -, X', ⟨Lc, hQ, l1, l2, l3⟩, st'⟩ := X.specialBack hx (y := y) hy1 hown (mvT hZ w1) (mvT hZ w2) (mvT hZ (hret ▸ wc)) hy (backOf (W := W) hM hZ wc wz hfr hlo) (g := mkF m pc Ls st) rfl hsize (Steps.refl _) (a := a) (argsL := argsL) (rest := rest) hlen hst hW hd (fun _ _ => ⟨has, eT, hcells, hslots⟩)
  dsimp only [Pt.U, Pt.locs, Pt.cells, Pt.slots] at X' l1 l2 l3 st' hQ
  subst l1 l2 l3
  exact own_tr st' (k v T' Lc X' hQ)
theorem own_virtual (X : Stand p l e R s m args below meth c T locs cells slots) (hx : p.tables.exec = Jvm.exec) (hZ : Z.Warmed39 s.vm) {own : String} {index : Nat} {C : String} {y z : MethodName} (hown : s.vm.findClass own = some m.cls) (w1 : (Jvm.Cond.methodLink own index y).before a0 Z = true) (w2 : (Jvm.Cond.declares y).before a0 Z = true) (w3 : (Jvm.Cond.selects C y z).before a0 Z = true) (w4 : (Jvm.Cond.instanceMethod z).before a0 Z = true) (hyz : y = z) {a : Addr} (E : Exa Z h a C) (hy : y.cls ≠ "java/lang/invoke/MethodHandle" ∧ y.cls ≠ "java/lang/invoke/VarHandle") {bytes : ByteArray} {maxL : Nat} {ret : Option FieldType} {rm : Room} {as' : Array Value} {Q' : Option Value → Heap → List Loc → Prop} (hM : MetFree l z (head1 [Jvm.Cond.code z bytes maxL ret] rm) (fun a U => a = as' ∧ Z.Warmed39 U.vm ∧ U.heap = h) (fun _ _ _ _ _ => True) (fun _ U o U' => ∃ v L, o = .returned v ∧ Q' v U'.heap L ∧ FrameEnd U o U' L rm.cells rm.slots)) (wc : (Jvm.Cond.code z bytes maxL ret).before a0 Z = true) (wz : (Jvm.Cond.initialized z.cls).before a0 Z = true) (hfr : rm.frames + 1 ≤ R.frames) (eT : T.heap = h) (hsize : Ls.size = c.maxLocals) (argsL : List Value) {rest : List Value} (W : Nat) (hlo : W + (maxL + 11) + rm.locals ≤ R.locals) (hW : 2 * 0 + (rest.map fun v => v.category).sum ≤ W) (hcells : cells + rm.cells ≤ R.cells) (hslots : slots + rm.slots ≤ R.slots) (hlen : ∀ sig, parseMethodDescriptor y.desc = some sig → argsL.length = sig.parameters.length) (hst : st = argsL.reverse ++ .ref a :: rest) (has : (.ref a :: argsL).toArray = as') (pc' : Nat) (hp : pc + 3 = pc') (hd : decode c.code pc = .ok (.invokevirtual index, 3))
    (k : ∀ v T' Lc, Stand p l e R s m args below meth c T' (locs ++ Lc) (cells + rm.cells) (slots + rm.slots) → Q' v T'.heap Lc → own_Go p e below Fe Q (T'.setTop (mkF m pc' Ls (v.toList ++ rest)))) : own_Go p e below Fe Q (T.setTop (mkF m pc Ls st)) := by
  subst hp
  obtain ⟨cB, kB, qa, qb, qc⟩ := isOf hZ eT E
  obtain ⟨v, _, ⟨T', L', k', n'⟩, -, X', ⟨Lc, hQ, l1, l2, l3⟩, st'⟩ := X.virtualBack hx (y := y) (z := z) hown (mvT hZ w1) (mvT hZ w2) (hyz ▸ notFace_of_selects (args := #[]) (mvT hZ (hyz ▸ w3 : (Jvm.Cond.selects C z z).before a0 Z = true))) (mvT hZ w3) (mvT hZ w4) hy (backOf (W := W) hM hZ wc wz hfr hlo) qa qc (g := mkF m pc Ls st) rfl hsize (Steps.refl _) (argsL := argsL) (rest := rest) hlen hst hW hd (fun _ _ => ⟨has, eT, hcells, hslots⟩)
  dsimp only [Pt.U, Pt.locs, Pt.cells, Pt.slots] at X' l1 l2 l3 st' hQ
  subst l1 l2 l3
  exact own_tr st' (k v T' Lc X' hQ)
theorem own_virtualUp (X : Stand p l e R s m args below meth c T locs cells slots) (hx : p.tables.exec = Jvm.exec) (hZ : Z.Warmed39 s.vm) {own : String} {index : Nat} {C owner : String} {x y : MethodName} (hown : s.vm.findClass own = some m.cls) (w1 : (Jvm.Cond.methodLink own index x).before a0 Z = true) (w2 : (Jvm.Cond.sameMethod x.cls owner x.name x.desc).before a0 Z = true) (w2' : (Jvm.Cond.declares ⟨owner, x.name, x.desc⟩).before a0 Z = true) (w3 : (Jvm.Cond.selects C x y).before a0 Z = true) (w4 : (Jvm.Cond.instanceMethod y).before a0 Z = true) {a : Addr} (E : Exa Z h a C) (ho : owner ≠ "java/lang/invoke/MethodHandle" ∧ owner ≠ "java/lang/invoke/VarHandle") {bytes : ByteArray} {maxL : Nat} {ret : Option FieldType} {rm : Room} {as' : Array Value} {Q' : Option Value → Heap → List Loc → Prop} (hM : MetFree l y (head1 [Jvm.Cond.code y bytes maxL ret] rm) (fun a U => a = as' ∧ Z.Warmed39 U.vm ∧ U.heap = h) (fun _ _ _ _ _ => True) (fun _ U o U' => ∃ v L, o = .returned v ∧ Q' v U'.heap L ∧ FrameEnd U o U' L rm.cells rm.slots)) (wc : (Jvm.Cond.code y bytes maxL ret).before a0 Z = true) (wz : (Jvm.Cond.initialized y.cls).before a0 Z = true) (hfr : rm.frames + 1 ≤ R.frames) (eT : T.heap = h) (hsize : Ls.size = c.maxLocals) (argsL : List Value) {rest : List Value} (W : Nat) (hlo : W + (maxL + 11) + rm.locals ≤ R.locals) (hW : 2 * 0 + (rest.map fun v => v.category).sum ≤ W) (hcells : cells + rm.cells ≤ R.cells) (hslots : slots + rm.slots ≤ R.slots) (hlen : ∀ sig, parseMethodDescriptor x.desc = some sig → argsL.length = sig.parameters.length) (hst : st = argsL.reverse ++ .ref a :: rest) (has : (.ref a :: argsL).toArray = as') (pc' : Nat) (hp : pc + 3 = pc') (hd : decode c.code pc = .ok (.invokevirtual index, 3))
    (k : ∀ v T' Lc, Stand p l e R s m args below meth c T' (locs ++ Lc) (cells + rm.cells) (slots + rm.slots) → Q' v T'.heap Lc → own_Go p e below Fe Q (T'.setTop (mkF m pc' Ls (v.toList ++ rest)))) : own_Go p e below Fe Q (T.setTop (mkF m pc Ls st)) := by
  subst hp
  obtain ⟨cB, kB, qa, qb, qc⟩ := isOf hZ eT E
  obtain ⟨v, _, ⟨T', L', k', n'⟩, -, X', ⟨Lc, hQ, l1, l2, l3⟩, st'⟩ := X.virtualBackUp hx (x := x) (y := y) (owner := owner) hown (mvT hZ w1) (mvT hZ w2) (mvT hZ w2') ho (mvT hZ w3) (mvT hZ w4) (backOf (W := W) hM hZ wc wz hfr hlo) qa qc (g := mkF m pc Ls st) rfl hsize (Steps.refl _) (argsL := argsL) (rest := rest) hlen hst hW hd (fun _ _ => ⟨has, eT, hcells, hslots⟩)
  dsimp only [Pt.U, Pt.locs, Pt.cells, Pt.slots] at X' l1 l2 l3 st' hQ
  subst l1 l2 l3
  exact own_tr st' (k v T' Lc X' hQ)
theorem own_private (X : Stand p l e R s m args below meth c T locs cells slots) (hx : p.tables.exec = Jvm.exec) (hZ : Z.Warmed39 s.vm) {own : String} {index : Nat} {y z : MethodName} (hown : s.vm.findClass own = some m.cls) (w1 : (Jvm.Cond.methodLink own index y).before a0 Z = true) (w2 : (Jvm.Cond.instanceMethod y).before a0 Z = true) (hz : z.cls = y.cls) (w3 : (Jvm.Cond.selects z.cls z z).before a0 Z = true) (w4 : (Jvm.Cond.privateMethod y).before a0 Z = true) {a : Addr} (E : Exa Z h a y.cls) (hy : y.cls ≠ "java/lang/invoke/MethodHandle" ∧ y.cls ≠ "java/lang/invoke/VarHandle") {bytes : ByteArray} {maxL : Nat} {ret : Option FieldType} {rm : Room} {as' : Array Value} {Q' : Option Value → Heap → List Loc → Prop} (hM : MetFree l y (head1 [Jvm.Cond.code y bytes maxL ret] rm) (fun a U => a = as' ∧ Z.Warmed39 U.vm ∧ U.heap = h) (fun _ _ _ _ _ => True) (fun _ U o U' => ∃ v L, o = .returned v ∧ Q' v U'.heap L ∧ FrameEnd U o U' L rm.cells rm.slots)) (wc : (Jvm.Cond.code y bytes maxL ret).before a0 Z = true) (wz : (Jvm.Cond.initialized y.cls).before a0 Z = true) (hfr : rm.frames + 1 ≤ R.frames) (eT : T.heap = h) (hsize : Ls.size = c.maxLocals) (argsL : List Value) {rest : List Value} (W : Nat) (hlo : W + (maxL + 11) + rm.locals ≤ R.locals) (hW : 2 * 0 + (rest.map fun v => v.category).sum ≤ W) (hcells : cells + rm.cells ≤ R.cells) (hslots : slots + rm.slots ≤ R.slots) (hlen : ∀ sig, parseMethodDescriptor y.desc = some sig → argsL.length = sig.parameters.length) (hst : st = argsL.reverse ++ .ref a :: rest) (has : (.ref a :: argsL).toArray = as') (pc' : Nat) (hp : pc + 3 = pc') (hd : decode c.code pc = .ok (.invokevirtual index, 3))
    (k : ∀ v T' Lc, Stand p l e R s m args below meth c T' (locs ++ Lc) (cells + rm.cells) (slots + rm.slots) → Q' v T'.heap Lc → own_Go p e below Fe Q (T'.setTop (mkF m pc' Ls (v.toList ++ rest)))) : own_Go p e below Fe Q (T.setTop (mkF m pc Ls st)) := by
  subst hp
  obtain ⟨cq, q1, q2⟩ := E.cell
  have hsel : (Jvm.Cond.selects y.cls y y).before args s = true := by
    obtain ⟨c2, r2, m2, -, -, q3, -, kP, hkP, hkPi⟩ := Cond.selects_spec (mvT hZ w3 : (Jvm.Cond.selects z.cls z z).before args s = true)
    exact selects_self_of_private (hz ▸ findClass_of_methodNamed q3) hkP hkPi (Cond.privateMethod_at (mvP hZ w4 (args := #[]))) (mvT hZ w2) hy
  obtain ⟨v, _, ⟨T', L', k', n'⟩, -, X', ⟨Lc, hQ, l1, l2, l3⟩, st'⟩ := X.privateBack hx (y := y) hown (mvT hZ w1) (mvT hZ w2) hsel (Cond.privateMethod_at (mvP hZ w4 (args := #[]))) (mvT hZ wc) hy (backOf (W := W) hM hZ wc wz hfr hlo) (g := mkF m pc Ls st) rfl hsize (Steps.refl _) (a := a) (by rw [eT]; exact q1) q2 (argsL := argsL) (rest := rest) hlen hst hW hd (fun _ _ => ⟨has, eT, hcells, hslots⟩)
  dsimp only [Pt.U, Pt.locs, Pt.cells, Pt.slots] at X' l1 l2 l3 st' hQ
  subst l1 l2 l3
  exact own_tr st' (k v T' Lc X' hQ)
theorem own_rawbits (X : Stand p l e R s m args below meth c T locs cells slots) (hx : p.tables.exec = Jvm.exec) (hZ : Z.Warmed39 s.vm) {own : String} {index : Nat} (hown : s.vm.findClass own = some m.cls) (w1 : (Jvm.Cond.methodLink own index doubleToRawLongBitsName).before a0 Z = true) (w2 : (Jvm.Cond.native doubleToRawLongBitsName).before a0 Z = true) (w3 : (Jvm.Cond.static doubleToRawLongBitsName).before a0 Z = true) (w4 : (Jvm.Cond.initialized "java/lang/Double").before a0 Z = true) (eT : T.heap = h) (hsize : Ls.size = c.maxLocals) {b : UInt64} (pc' : Nat) (hp : pc + 3 = pc') (hd : decode c.code pc = .ok (.invokestatic index, 3)) (hf : 1 ≤ R.frames) (W : Nat) (hW : 2 * 0 + (st.map fun v => v.category).sum ≤ W) (hl : W + 15 ≤ R.locals)
    (k : ∀ T', Stand p l e R s m args below meth c T' locs cells slots → T'.heap = h → own_Go p e below Fe Q (T'.setTop (mkF m pc' Ls (.long b.toInt64 :: st)))) : own_Go p e below Fe Q (T.setTop (mkF m pc Ls (.double b :: st))) := by
  subst hp
  obtain ⟨vm', X', st'⟩ := X.doubleToRawLongBits hx hown (mvT hZ w1) (mvT hZ w2) (mvT hZ w3) (mvT hZ w4) (g := mkF m pc Ls (.double b :: st)) rfl hsize (rest := st) (b := b) rfl hd hf (Nat.le_trans (Nat.add_le_add_right hW _) hl)
  exact own_st st' (k _ X' eT)
end OwnSteps
section OwnY
variable {p : Program} {l : Launch} {e : Env} {R : Room} {s : State} {m : MethodId} {args : Array Value} {below : List Frame} {meth : Method} {c : Code} {T : State} {locs : List Loc} {cells slots : Nat} {Fe : Outcome → State → List Loc → Prop} {Q : Option Value → Heap → List Loc → Prop} {pc : Nat} {Ls : Array Slot} {st : List Value} {Z : State} {a0 : Array Value} {h : Heap}
theorem own_ldC (X : Stand p l e R s m args below meth c T locs cells slots) (hx : p.tables.exec = Jvm.exec) (hZ : Z.Warmed39 s.vm) (eT : T.heap = h) {a : Addr} {kA : ClassId} {n : Int32} {vs : List Value} {dv : Value} (F : Arv Z h a kA .char n vs dv) {j : Int32} (hj : ¬ j < 0 ∧ j < n) (x : Int32) (hv : vs.getD j.toNatClampNeg dv = (.int x)) (pc' : Nat) (hp : pc + 1 = pc') (hd : decode c.code pc = .ok (.caload, 1))
    (k : own_Go p e below Fe Q (T.setTop (mkF m pc' Ls (.int x :: st)))) : own_Go p e below Fe Q (T.setTop (mkF m pc Ls (.int j :: .ref a :: st))) := by
  subst hp
  obtain ⟨cl, Ar, q, S, N1, H, G⟩ := F
  have hin := inb_of S hj
  exact own_st (X.caload hx (j := j) (v := .int x) (by rw [eT]; exact Ar.1) (State.isArrayOf_alike hZ.alike Ar.2.1) Ar.2.2 hin (Has.at H hin hv) (g := mkF m pc Ls (.int j :: .ref a :: st)) rfl rfl hd) k
theorem own_ldR (X : Stand p l e R s m args below meth c T locs cells slots) (hx : p.tables.exec = Jvm.exec) (hZ : Z.Warmed39 s.vm) (eT : T.heap = h) {a : Addr} {kA : ClassId} {ty : FieldType} {n : Int32} {vs : List Value} {dv : Value} (F : Arv Z h a kA ty n vs dv) (hty : ty.isReference = true) {j : Int32} (hj : ¬ j < 0 ∧ j < n) (x : Addr) (hv : vs.getD j.toNatClampNeg dv = (.ref x)) (pc' : Nat) (hp : pc + 1 = pc') (hd : decode c.code pc = .ok (.aaload, 1))
    (k : own_Go p e below Fe Q (T.setTop (mkF m pc' Ls (.ref x :: st)))) : own_Go p e below Fe Q (T.setTop (mkF m pc Ls (.int j :: .ref a :: st))) := by
  subst hp
  obtain ⟨cl, Ar, q, S, N1, H, G⟩ := F
  have hin := inb_of S hj
  exact own_st (X.aaload hx (j := j) (v := .ref x) (by rw [eT]; exact Ar.1) (State.isArrayOf_alike hZ.alike Ar.2.1) hty Ar.2.2 hin (Has.at H hin hv) (g := mkF m pc Ls (.int j :: .ref a :: st)) rfl rfl hd) k
theorem own_stR (X : Stand p l e R s m args below meth c T locs cells slots) (hx : p.tables.exec = Jvm.exec) (hZ : Z.Warmed39 s.vm) (eT : T.heap = h) {a : Addr} {kA : ClassId} {ty : FieldType} {n : Int32} {vs : List Value} {dv : Value} (F : Arv Z h a kA ty n vs dv) (hty : ty.isReference = true) {C : String} (O : Ovr Z kA C) {y : Addr} (I : Ins Z h y C true) (hfit : fits ty (.ref y) = true) {j : Int32} (hj : ¬ j < 0 ∧ j < n) (i : Nat) (hi : j.toNatClampNeg = i) (hl : i < vs.length) (vs' : List Value) (hvs : vs.set i (.ref y) = vs') (pc' : Nat) (hp : pc + 1 = pc') (hd : decode c.code pc = .ok (.aastore, 1))
    (k : ∀ T' h', Stand p l e R s m args below meth c T' (locs ++ [⟨a, j.toNatClampNeg⟩]) cells slots → T'.heap = h' → Wr h h' a j.toNatClampNeg (.ref y) → Arv Z h' a kA ty n vs' dv → own_Go p e below Fe Q (T'.setTop (mkF m pc' Ls st))) : own_Go p e below Fe Q (T.setTop (mkF m pc Ls (.ref y :: .int j :: .ref a :: st))) := by
  subst hp; subst hvs
  obtain ⟨cl, Ar, q, S, N1, H, G⟩ := F
  have hin := inb_of S hj
  obtain ⟨T', h', X', e', W', st'⟩ := stR X hx hZ eT Ar (j := j) hin hty (Sto.ofV Ar q O I) (g := mkF m pc Ls (.ref y :: .int j :: .ref a :: st)) rfl rfl hd
  exact own_st st' (k T' h' X' e' W' (Arv.set Ar q S N1 H G hfit W' i hi hl))
theorem own_newR (X : Stand p l e R s m args below meth c T locs cells slots) (hx : p.tables.exec = Jvm.exec) (hZ : Z.Warmed39 s.vm) {own C : String} {index : Nat} (hown : s.vm.findClass own = some m.cls) (w1 : (Jvm.Cond.classLink own index C).before a0 Z = true) (w2 : (Jvm.Cond.arrayOver (.object C)).before a0 Z = true) (eT : T.heap = h) {n : Int32} (pc' : Nat) (hp : pc + 3 = pc') (hd : decode c.code pc = .ok (.anewarray index, 3)) (hn : ¬ n < 0) (cap : Nat) (hcap : n.toNatClampNeg ≤ cap) (hb : cap * 8 ≤ 536870912) (hc : cells + 1 ≤ R.cells) (hl : slots + cap ≤ R.slots)
    (k : ∀ T' h' cA b, b = h.size → Stand p l e R s m args below meth c T' locs (cells + 1) (slots + cap) → T'.heap = h' → Ext h h' → Arr Z h' b (newA cA (.object C) n) (.object C) → Ovr Z cA C → own_Go p e below Fe Q (T'.setTop (mkF m pc' Ls (.ref b :: st)))) : own_Go p e below Fe Q (T.setTop (mkF m pc Ls (.int n :: st))) := by
  subst hp
  obtain ⟨T', h', cA, X', e', E', A', O', st'⟩ := newR X hx hZ hown w1 w2 eT (g := mkF m pc Ls (.int n :: st)) rfl hd rfl hn hcap hb hc hl
  exact own_st st' (k T' h' cA _ rfl X' e' E' A' O')
theorem own_iface (X : Stand p l e R s m args below meth c T locs cells slots) (hx : p.tables.exec = Jvm.exec) (hZ : Z.Warmed39 s.vm) {own : String} {index count : Nat} {C : String} {xi y : MethodName} (hown : s.vm.findClass own = some m.cls) (w1 : (Jvm.Cond.methodLink own index xi).before a0 Z = true) (w2 : (Jvm.Cond.declares xi).before a0 Z = true) (w3 : (Jvm.Cond.interfaceMethod xi.cls xi.cls xi.name xi.desc).before a0 Z = true) (h3 : ((Jvm.Cond.interfaceMethod xi.cls xi.cls xi.name xi.desc).onTables && (Jvm.Cond.interfaceMethod xi.cls xi.cls xi.name xi.desc).keepsFace) = true) (w4 : (Jvm.Cond.selects C xi y).before a0 Z = true) (w5 : (Jvm.Cond.instanceMethod y).before a0 Z = true) (w6 : (Jvm.Cond.publicMethod y).before a0 Z = true) (w7 : (Jvm.Cond.unhidden C xi.name xi.desc).before a0 Z = true) (w8 : (Jvm.Cond.castable C xi.cls).before a0 Z = true) {a : Addr} (E : Exa Z h a C) (hy : xi.cls ≠ "java/lang/invoke/MethodHandle" ∧ xi.cls ≠ "java/lang/invoke/VarHandle") {bytes : ByteArray} {maxL : Nat} {ret : Option FieldType} {rm : Room} {as' : Array Value} {Q' : Option Value → Heap → List Loc → Prop} (hM : MetFree l y (head1 [Jvm.Cond.code y bytes maxL ret] rm) (fun a U => a = as' ∧ Z.Warmed39 U.vm ∧ U.heap = h) (fun _ _ _ _ _ => True) (fun _ U o U' => ∃ v L, o = .returned v ∧ Q' v U'.heap L ∧ FrameEnd U o U' L rm.cells rm.slots)) (wc : (Jvm.Cond.code y bytes maxL ret).before a0 Z = true) (wz : (Jvm.Cond.initialized y.cls).before a0 Z = true) (hfr : rm.frames + 1 ≤ R.frames) (eT : T.heap = h) (hsize : Ls.size = c.maxLocals) (argsL : List Value) {rest : List Value} (W : Nat) (hlo : W + (maxL + 11) + rm.locals ≤ R.locals) (hW : 2 * 0 + (rest.map fun v => v.category).sum ≤ W) (hcells : cells + rm.cells ≤ R.cells) (hslots : slots + rm.slots ≤ R.slots) (hlen : ∀ sig, parseMethodDescriptor xi.desc = some sig → argsL.length = sig.parameters.length) (hst : st = argsL.reverse ++ .ref a :: rest) (has : (.ref a :: argsL).toArray = as') (pc' : Nat) (hp : pc + 5 = pc') (hd : decode c.code pc = .ok (.invokeinterface index count, 5))
    (k : ∀ v T' Lc, Stand p l e R s m args below meth c T' (locs ++ Lc) (cells + rm.cells) (slots + rm.slots) → Q' v T'.heap Lc → own_Go p e below Fe Q (T'.setTop (mkF m pc' Ls (v.toList ++ rest)))) : own_Go p e below Fe Q (T.setTop (mkF m pc Ls st)) := by
  subst hp
  obtain ⟨cB, kB, qa, qb, qc⟩ := isOf hZ eT E
  obtain ⟨v, _, ⟨T', L', k', n'⟩, -, X', ⟨Lc, hQ, l1, l2, l3⟩, st'⟩ := X.interfaceBack hx (xi := xi) (y := y) hown (mvT hZ w1) (mvT hZ w2) (mvT hZ w3 h3) (mvT hZ w4) (mvT hZ w5) (mvT hZ w6) (mvT hZ w7) (mvT hZ w8) hy (backOf (W := W) hM hZ wc wz hfr hlo) qa qb qc (g := mkF m pc Ls st) rfl hsize (Steps.refl _) (argsL := argsL) (rest := rest) hlen hst hW hd (fun _ _ => ⟨has, eT, hcells, hslots⟩)
  dsimp only [Pt.U, Pt.locs, Pt.cells, Pt.slots] at X' l1 l2 l3 st' hQ
  subst l1 l2 l3
  exact own_tr st' (k v T' Lc X' hQ)
/-- the Class object of the class C is made -/
def own_Mi (Z : State) (C : String) (mr : Addr) : Prop := ∃ (c : ClassId) (k : Class), Z.vm.findClass C = some c ∧ Z.vm.classes[c]? = some k ∧ k.mirror = some mr
theorem own_ifm {r o n d : String} (hZ : Z.Warmed39 s.vm) (w : (Jvm.Cond.interfaceMethod r o n d).before a0 Z = true) : (Jvm.Cond.interfaceMethod r o n d).before args s = true := by
  obtain ⟨c, k, mm, h1, h2, h3, h4, h5⟩ := Cond.interfaceMethod_spec w
  have e1 : s.vm.findClass r = some c := by rw [hZ.alike.findClass]; exact h1
  obtain ⟨k', q, ek⟩ := hZ.alike.2.2 _ _ h2
  have e3 : k'.isInterface = true := by rw [ek]; exact h3
  have e4 : s.methodFound? r n d = some mm := (State.methodFound?_setVm (s := Z) hZ.alike r n d).trans h4
  have e5 : s.methodNamed? ⟨o, n, d⟩ = some mm := (State.methodNamed?_setVm (s := Z) hZ.alike ⟨o, n, d⟩).trans h5
  exact Cond.before_iff.mpr (by simp [Cond.value, e1, q, e3, e4, e5])
theorem own_gclsI (X : Stand p l e R s m args below meth c T locs cells slots) (hx : p.tables.exec = Jvm.exec) (hZ : Z.Warmed39 s.vm) {own C : String} {index count : Nat} {xi : MethodName} (hown : s.vm.findClass own = some m.cls) (w1 : (Jvm.Cond.methodLink own index xi).before a0 Z = true) (w2 : (Jvm.Cond.declares Jvm.Stand.gcN).before a0 Z = true) (w3 : (Jvm.Cond.interfaceMethod xi.cls "java/lang/Object" xi.name xi.desc).before a0 Z = true) (w4 : (Jvm.Cond.selects C xi Jvm.Stand.gcN).before a0 Z = true) (w5 : (Jvm.Cond.instanceMethod Jvm.Stand.gcN).before a0 Z = true) (w6 : (Jvm.Cond.publicMethod Jvm.Stand.gcN).before a0 Z = true) (w7 : (Jvm.Cond.unhidden C xi.name xi.desc).before a0 Z = true) (w8 : (Jvm.Cond.castable C xi.cls).before a0 Z = true) (w9 : (Jvm.Cond.native Jvm.Stand.gcN).before a0 Z = true) (hy : xi.cls ≠ "java/lang/invoke/MethodHandle" ∧ xi.cls ≠ "java/lang/invoke/VarHandle") (hyo : xi.cls ≠ "java/lang/Object") (hn : xi.name = "getClass") (hde : xi.desc = "()Ljava/lang/Class;") (eT : T.heap = h) (hsize : Ls.size = c.maxLocals) {a : Addr} (E : Exa Z h a C) {mr : Addr} (M : own_Mi Z C mr) (pc' : Nat) (hp : pc + 5 = pc') (hd : decode c.code pc = .ok (.invokeinterface index count, 5)) (hf : 1 ≤ R.frames) (W : Nat) (hW : 2 * 0 + (st.map fun v => v.category).sum ≤ W) (hl : W + (nativeFrameWords "java/lang/Object" "getClass" 1 + 11) ≤ R.locals)
    (k : ∀ T', Stand p l e R s m args below meth c T' locs cells slots → T'.heap = h → own_Go p e below Fe Q (T'.setTop (mkF m pc' Ls (.ref mr :: st)))) : own_Go p e below Fe Q (T.setTop (mkF m pc Ls (.ref a :: st))) := by
  subst hp
  obtain ⟨cB, kB, i1, i2, i3⟩ := isOf hZ eT E
  obtain ⟨cc, kc, m1, m2, m3⟩ := M
  have j1 := i1
  rw [hZ.alike.findClass] at j1
  cases j1.symm.trans m1
  obtain ⟨k', q, ek⟩ := hZ.alike.2.2 _ _ m2
  obtain ⟨vm', X', st'⟩ := X.getClassOfI hx (C := C) hown (mvT hZ w1) (mvT hZ w2) (own_ifm hZ w3) (mvT hZ w4) (mvT hZ w5) (mvT hZ w6) (mvT hZ w7) (mvT hZ w8) (mvT hZ w9) hy hyo hn hde i1 q i3 (by rw [ek]; exact m3) (g := mkF m pc Ls (.ref a :: st)) rfl hsize (rest := st) rfl hd hf (Nat.le_trans (Nat.add_le_add_right hW _) hl)
  exact own_st st' (k _ X' eT)
theorem own_ldcM (X : Stand p l e R s m args below meth c T locs cells slots) (hx : p.tables.exec = Jvm.exec) (hZ : Z.Warmed39 s.vm) {own C : String} {index : Nat} (hown : s.vm.findClass own = some m.cls) (w1 : (Jvm.Cond.classLink own index C).before a0 Z = true) {mr : Addr} (M : own_Mi Z C mr) (eT : T.heap = h) (pc' : Nat) (hp : pc + 2 = pc') (hd : decode c.code pc = .ok (.ldc index, 2))
    (k : ∀ T', Stand p l e R s m args below meth c T' locs cells slots → T'.heap = h → own_Go p e below Fe Q (T'.setTop (mkF m pc' Ls (.ref mr :: st)))) : own_Go p e below Fe Q (T.setTop (mkF m pc Ls st)) := by
  subst hp
  obtain ⟨cc, kc, m1, m2, m3⟩ := M
  obtain ⟨k', q, ek⟩ := hZ.alike.2.2 _ _ m2
  have f1 : s.vm.findClass C = some cc := by rw [hZ.alike.findClass]; exact m1
  have f2 : k'.mirror = some mr := by rw [ek]; exact m3
  have hev : (Term.mirror C).eval args s none [] s = some (.ref mr) := by simp [Term.eval, f1, q, f2]
  obtain ⟨vm', X', st'⟩ := X.ldcMirror hx hown (mvT hZ w1) hev (g := mkF m pc Ls st) rfl hd
  exact own_st st' (k _ X' eT)
end OwnY
/-- the cache of Long: old cells, each with its number -/
def own_Ca (Z : State) (h : Heap) (n0 : Nat) : Prop := ∃ (aC : Addr) (kC : ClassId) (vs : List Value), Sta Z h "java/lang/Long$LongCache" "cache" "[Ljava/lang/Long;" (.ref aC) ∧ Arv Z h aC kC (.object "java/lang/Long") (256 : Int32) vs .null ∧ aC < n0 ∧ ∀ i : Nat, i < 256 → ∃ y : Addr, y < n0 ∧ vs.getD i .null = .ref y ∧ Exa Z h y "java/lang/Long" ∧ Fld Z h y "java/lang/Long" "value" "J" (.long (Int64.ofInt ((i : Int) - 128)))
section OwnCa
variable {Z : State} {h h' : Heap} {n0 : Nat}
theorem own_Ca.ext (F : own_Ca Z h n0) (E : Ext h h') : own_Ca Z h' n0 := by
  obtain ⟨aC, kC, vs, f1, f2, f3, f4⟩ := F
  refine ⟨aC, kC, vs, f1.ext E, f2.ext E, f3, fun i hi => ?_⟩
  obtain ⟨y, y1, y2, y3, y4⟩ := f4 i hi
  exact ⟨y, y1, y2, y3.ext E, y4.ext E⟩
theorem own_Ca.wr {a : Addr} {sl : Nat} {v : Value} (F : own_Ca Z h n0) (W : Wr h h' a sl v) (g : n0 ≤ a) : own_Ca Z h' n0 := by
  obtain ⟨aC, kC, vs, f1, f2, f3, f4⟩ := F
  refine ⟨aC, kC, vs, f1.wr W, f2.other W (Nat.ne_of_lt (Nat.lt_of_lt_of_le f3 g)), f3, fun i hi => ?_⟩
  obtain ⟨y, y1, y2, y3, y4⟩ := f4 i hi
  exact ⟨y, y1, y2, y3.wr W, y4.other W (Or.inl (Nat.ne_of_lt (Nat.lt_of_lt_of_le y1 g)))⟩
theorem own_nmem {a n0 : Nat} {ws : List Addr} (q : ∀ x ∈ ws, n0 ≤ x) (g : a < n0) : a ∉ ws := fun m => Nat.lt_irrefl _ (Nat.lt_of_lt_of_le g (q a m))
theorem own_staKeep' {C n d : String} {v : Value} {ws : List Addr} (F : Sta Z h C n d v) (K : Keep h h' ws) (hn : ∀ x ∈ ws, ∀ cell : Cell, h[x]? = some cell → cell.vm.isStatics = false) : Sta Z h' C n d v := own_staKeep F K hn
theorem own_Ca.keep {ws : List Addr} (F : own_Ca Z h n0) (K : Keep h h' ws) (q : ∀ x ∈ ws, n0 ≤ x) (hn : ∀ x ∈ ws, ∀ cell : Cell, h[x]? = some cell → cell.vm.isStatics = false) : own_Ca Z h' n0 := by
  obtain ⟨aC, kC, vs, f1, f2, f3, f4⟩ := F
  refine ⟨aC, kC, vs, own_staKeep f1 K hn, f2.keep K (own_nmem q f3), f3, fun i hi => ?_⟩
  obtain ⟨y, y1, y2, y3, y4⟩ := f4 i hi
  exact ⟨y, y1, y2, y3.keep K, y4.keep K (own_nmem q y1)⟩
end OwnCa
theorem own_on {r y n H : Nat} (s : r < n ∨ H ≤ r) (g : n ≤ y) (l : y < H) : y ≠ r := by omega
theorem own_onC {y : Int64} (h1 : ¬ lcmpW y (-128) < 0) (h2 : ¬ 0 < lcmpW y 127) : ∃ i : Nat, i < 256 ∧ (y.toInt32 + (128 : Int32)).toNatClampNeg = i ∧ Int64.ofInt ((i : Int) - 128) = y ∧ (¬ (y.toInt32 + (128 : Int32)) < 0 ∧ (y.toInt32 + (128 : Int32)) < (256 : Int32)) := by
  have c1 := c_lcmp y (-128)
  have c2 := c_lcmp y 127
  have e1 : ((-128 : Int64)).toInt = -128 := by decide
  have e2 : ((127 : Int64)).toInt = 127 := by decide
  have e0 : ((0 : Int32)).toInt = 0 := by decide
  have e3 : ((128 : Int32)).toInt = 128 := by decide
  have e4 : ((256 : Int32)).toInt = 256 := by decide
  rw [Int32.lt_iff_toInt_lt] at h1 h2
  have l1 : -128 ≤ y.toInt := by omega
  have l2 : y.toInt ≤ 127 := by omega
  have k1 := c_l2i y
  have k2 := rng32 y.toInt32
  have k3 : y.toInt32.toInt = y.toInt := by omega
  have k4 := c_iadd y.toInt32 128
  have k5 := rng32 (y.toInt32 + 128)
  have k6 : (y.toInt32 + (128 : Int32)).toInt = y.toInt + 128 := by omega
  refine ⟨(y.toInt + 128).toNat, by omega, ?_, ?_, ?_⟩
  · show (y.toInt32 + (128 : Int32)).toInt.toNat = _
    rw [k6]
  · refine Int64.toInt_inj.mp ?_
    rw [Int64.toInt_ofInt_of_le (by omega) (by omega)]
    omega
  · rw [Int32.lt_iff_toInt_lt, Int32.lt_iff_toInt_lt]
    omega
theorem own_ch {y : Int32} (h0 : 0 ≤ y.toInt) (h1 : y.toInt ≤ 255) : ¬ (255 : Int32) < nar .char (y.toUInt32.toUInt16.toUInt32.toInt32) := by
  have k1 := c_i2c y
  have k2 := c_i2c (y.toUInt32.toUInt16.toUInt32.toInt32)
  have e : ((255 : Int32)).toInt = 255 := by decide
  show ¬ (255 : Int32) < (y.toUInt32.toUInt16.toUInt32.toInt32).toUInt32.toUInt16.toUInt32.toInt32
  rw [Int32.lt_iff_toInt_lt]
  omega
theorem own_m255 (y : Int32) : 0 ≤ (y &&& (255 : Int32)).toInt ∧ (y &&& (255 : Int32)).toInt ≤ 255 := by
  rw [c_mask y 255 8 (by decide) (by decide)]; omega
theorem own_ch1 {y : Int32} (h0 : 0 ≤ y.toInt) (h1 : y.toInt ≤ 255) : ¬ (255 : Int32) < y.toUInt32.toUInt16.toUInt32.toInt32 := by
  have k1 := c_i2c y
  have e : ((255 : Int32)).toInt = 255 := by decide
  rw [Int32.lt_iff_toInt_lt]
  omega
theorem own_pn0 : plainName "java/lang/Number" = true := by first | (simp [plainName, overriddenIn]; done) | decide +kernel
theorem own_ef_rm_num (m : MethodId) (o : Addr) : entryFrame m #[(.ref o)] 1 = mkF m 0 #[.val (.ref o)] [] := by first | (simp [entryFrame, mkF, argsToLocals, Value.category]; done) | rfl
def Q_rm_num (Z : State) (o : Addr) (h0 : Heap) (n0 : Nat) (v : Option Value) (h : Heap) (L : List Loc) : Prop := v = none ∧ Fr n0 L ∧ h = h0
theorem own_d20_0 : decode jdk_18_method_1_code 0 = .ok (.aload_n 0, 1) := by decide +kernel
theorem own_d20_1 : decode jdk_18_method_1_code 1 = .ok (.invokespecial 1, 3) := by decide +kernel
theorem own_d20_4 : decode jdk_18_method_1_code 4 = .ok (.return_, 1) := by decide +kernel
set_option maxRecDepth 65536 in
set_option maxHeartbeats 40000000 in
theorem rm_num (l : Launch) (Z : State) (a0 : Array Value) (hw : ∀ d ∈ tables_1, d.before a0 Z = true) (ws : List Jvm.Cond) (o : Addr) (h0 : Heap) (n0 : Nat) (Z0 : n0 ≤ h0.size)  :
    MetFree l (⟨"java/lang/Number", "<init>", "()V"⟩ : MethodName) (head1 (Jvm.Cond.code (⟨"java/lang/Number", "<init>", "()V"⟩ : MethodName) jdk_18_method_1_code 1 none :: ws) ({ frames := 1, cells := 0, slots := 0, locals := 12 } : Room)) (fun aa U => aa = #[(.ref o)] ∧ Z.Warmed39 U.vm ∧ U.heap = h0) (fun _ _ _ _ _ => True) (fun _ U ou U' => ∃ v L, ou = .returned v ∧ Q_rm_num Z o h0 n0 v U'.heap L ∧ FrameEnd U ou U' L ({ frames := 1, cells := 0, slots := 0, locals := 12 } : Room).cells ({ frames := 1, cells := 0, slots := 0, locals := 12 } : Room).slots) := by
  refine MetFree.of_bodySF (plainFor_of_name own_pn0) hisR ?_
  intro p e s m args below meth c s₁ Bd hml0 hP hK
  obtain ⟨rfl, hZ, hh⟩ := hP
  have hx := Bd.exec
  have hby := Bd.bytes
  have hml : c.maxLocals = 1 := hml0
  have hown : s.vm.findClass "java/lang/Number" = some m.cls := findClass_of_methodNamed Bd.named
  have hnm := (name_of_methodNamed Bd.named Bd.method).1
  have X0 : Stand p l e ({ frames := 1, cells := 0, slots := 0, locals := 12 } : Room) s m #[(.ref o)] below meth c s₁ [] 0 0 := Stand.of_body Bd
  have e0 : s₁.heap = h0 := by rw [← hh, Bd.state]; rfl
  have N0 := Fr.nil n0
  show own_Go p e below (fun o u L => FrameEnd s o u L ({ frames := 1, cells := 0, slots := 0, locals := 12 } : Room).cells ({ frames := 1, cells := 0, slots := 0, locals := 12 } : Room).slots) (Q_rm_num Z o h0 n0) (s₁.setTop (entryFrame m #[(.ref o)] 1))
  rw [own_ef_rm_num m o]
  show own_Go _ _ _ _ _ (State.setTop _ (mkF _ 0 #[.val (.ref o)] []))
  refine own_aloadN X0 hx 1 rfl (hb hby own_d20_0) rfl rfl ?_
  refine own_initO X0 hx hZ hown (own_hw hw 136 rfl) (own_hw hw 21 rfl) (own_hw hw 22 rfl) e0 (by rw [hml]; rfl) 4 rfl (hb hby own_d20_1) (by decide) 0 (Nat.le_of_eq rfl) (by decide) fun T101 X101 e101 => ?_
  refine own_ret X101 none (fun _ => rfl) Bd.notSynchronized (by decide) (by decide) ?_ (fun fs hr => X101.returnOut hx Bd.returns (hb hby own_d20_4) hr)
  show Q_rm_num Z o h0 n0 _ T101.heap _
  rw [e101]
  exact ⟨rfl, N0, rfl⟩
theorem own_pn1 : plainName "java/util/AbstractCollection" = true := by first | (simp [plainName, overriddenIn]; done) | decide +kernel
theorem own_ef_rm_abc (m : MethodId) (o : Addr) : entryFrame m #[(.ref o)] 1 = mkF m 0 #[.val (.ref o)] [] := by first | (simp [entryFrame, mkF, argsToLocals, Value.category]; done) | rfl
def Q_rm_abc (Z : State) (o : Addr) (h0 : Heap) (n0 : Nat) (v : Option Value) (h : Heap) (L : List Loc) : Prop := v = none ∧ Fr n0 L ∧ h = h0
theorem own_d9_0 : decode jdk_22_method_1_code 0 = .ok (.aload_n 0, 1) := by decide +kernel
theorem own_d9_1 : decode jdk_22_method_1_code 1 = .ok (.invokespecial 1, 3) := by decide +kernel
theorem own_d9_4 : decode jdk_22_method_1_code 4 = .ok (.return_, 1) := by decide +kernel
set_option maxRecDepth 65536 in
set_option maxHeartbeats 40000000 in
theorem rm_abc (l : Launch) (Z : State) (a0 : Array Value) (hw : ∀ d ∈ tables_1, d.before a0 Z = true) (ws : List Jvm.Cond) (o : Addr) (h0 : Heap) (n0 : Nat) (Z0 : n0 ≤ h0.size)  :
    MetFree l (⟨"java/util/AbstractCollection", "<init>", "()V"⟩ : MethodName) (head1 (Jvm.Cond.code (⟨"java/util/AbstractCollection", "<init>", "()V"⟩ : MethodName) jdk_22_method_1_code 1 none :: ws) ({ frames := 1, cells := 0, slots := 0, locals := 12 } : Room)) (fun aa U => aa = #[(.ref o)] ∧ Z.Warmed39 U.vm ∧ U.heap = h0) (fun _ _ _ _ _ => True) (fun _ U ou U' => ∃ v L, ou = .returned v ∧ Q_rm_abc Z o h0 n0 v U'.heap L ∧ FrameEnd U ou U' L ({ frames := 1, cells := 0, slots := 0, locals := 12 } : Room).cells ({ frames := 1, cells := 0, slots := 0, locals := 12 } : Room).slots) := by
  refine MetFree.of_bodySF (plainFor_of_name own_pn1) hisR ?_
  intro p e s m args below meth c s₁ Bd hml0 hP hK
  obtain ⟨rfl, hZ, hh⟩ := hP
  have hx := Bd.exec
  have hby := Bd.bytes
  have hml : c.maxLocals = 1 := hml0
  have hown : s.vm.findClass "java/util/AbstractCollection" = some m.cls := findClass_of_methodNamed Bd.named
  have hnm := (name_of_methodNamed Bd.named Bd.method).1
  have X0 : Stand p l e ({ frames := 1, cells := 0, slots := 0, locals := 12 } : Room) s m #[(.ref o)] below meth c s₁ [] 0 0 := Stand.of_body Bd
  have e0 : s₁.heap = h0 := by rw [← hh, Bd.state]; rfl
  have N0 := Fr.nil n0
  show own_Go p e below (fun o u L => FrameEnd s o u L ({ frames := 1, cells := 0, slots := 0, locals := 12 } : Room).cells ({ frames := 1, cells := 0, slots := 0, locals := 12 } : Room).slots) (Q_rm_abc Z o h0 n0) (s₁.setTop (entryFrame m #[(.ref o)] 1))
  rw [own_ef_rm_abc m o]
  show own_Go _ _ _ _ _ (State.setTop _ (mkF _ 0 #[.val (.ref o)] []))
  refine own_aloadN X0 hx 1 rfl (hb hby own_d9_0) rfl rfl ?_
  refine own_initO X0 hx hZ hown (own_hw hw 52 rfl) (own_hw hw 21 rfl) (own_hw hw 22 rfl) e0 (by rw [hml]; rfl) 4 rfl (hb hby own_d9_1) (by decide) 0 (Nat.le_of_eq rfl) (by decide) fun T102 X102 e102 => ?_
  refine own_ret X102 none (fun _ => rfl) Bd.notSynchronized (by decide) (by decide) ?_ (fun fs hr => X102.returnOut hx Bd.returns (hb hby own_d9_4) hr)
  show Q_rm_abc Z o h0 n0 _ T102.heap _
  rw [e102]
  exact ⟨rfl, N0, rfl⟩
theorem own_pn2 : plainName "java/lang/Record" = true := by first | (simp [plainName, overriddenIn]; done) | decide +kernel
theorem own_ef_rm_rec (m : MethodId) (o : Addr) : entryFrame m #[(.ref o)] 1 = mkF m 0 #[.val (.ref o)] [] := by first | (simp [entryFrame, mkF, argsToLocals, Value.category]; done) | rfl
def Q_rm_rec (Z : State) (o : Addr) (h0 : Heap) (n0 : Nat) (v : Option Value) (h : Heap) (L : List Loc) : Prop := v = none ∧ Fr n0 L ∧ h = h0
theorem own_d13_0 : decode jdk_30_method_1_code 0 = .ok (.aload_n 0, 1) := by decide +kernel
theorem own_d13_1 : decode jdk_30_method_1_code 1 = .ok (.invokespecial 1, 3) := by decide +kernel
theorem own_d13_4 : decode jdk_30_method_1_code 4 = .ok (.return_, 1) := by decide +kernel
set_option maxRecDepth 65536 in
set_option maxHeartbeats 40000000 in
theorem rm_rec (l : Launch) (Z : State) (a0 : Array Value) (hw : ∀ d ∈ tables_1, d.before a0 Z = true) (ws : List Jvm.Cond) (o : Addr) (h0 : Heap) (n0 : Nat) (Z0 : n0 ≤ h0.size)  :
    MetFree l (⟨"java/lang/Record", "<init>", "()V"⟩ : MethodName) (head1 (Jvm.Cond.code (⟨"java/lang/Record", "<init>", "()V"⟩ : MethodName) jdk_30_method_1_code 1 none :: ws) ({ frames := 1, cells := 0, slots := 0, locals := 12 } : Room)) (fun aa U => aa = #[(.ref o)] ∧ Z.Warmed39 U.vm ∧ U.heap = h0) (fun _ _ _ _ _ => True) (fun _ U ou U' => ∃ v L, ou = .returned v ∧ Q_rm_rec Z o h0 n0 v U'.heap L ∧ FrameEnd U ou U' L ({ frames := 1, cells := 0, slots := 0, locals := 12 } : Room).cells ({ frames := 1, cells := 0, slots := 0, locals := 12 } : Room).slots) := by
  refine MetFree.of_bodySF (plainFor_of_name own_pn2) hisR ?_
  intro p e s m args below meth c s₁ Bd hml0 hP hK
  obtain ⟨rfl, hZ, hh⟩ := hP
  have hx := Bd.exec
  have hby := Bd.bytes
  have hml : c.maxLocals = 1 := hml0
  have hown : s.vm.findClass "java/lang/Record" = some m.cls := findClass_of_methodNamed Bd.named
  have hnm := (name_of_methodNamed Bd.named Bd.method).1
  have X0 : Stand p l e ({ frames := 1, cells := 0, slots := 0, locals := 12 } : Room) s m #[(.ref o)] below meth c s₁ [] 0 0 := Stand.of_body Bd
  have e0 : s₁.heap = h0 := by rw [← hh, Bd.state]; rfl
  have N0 := Fr.nil n0
  show own_Go p e below (fun o u L => FrameEnd s o u L ({ frames := 1, cells := 0, slots := 0, locals := 12 } : Room).cells ({ frames := 1, cells := 0, slots := 0, locals := 12 } : Room).slots) (Q_rm_rec Z o h0 n0) (s₁.setTop (entryFrame m #[(.ref o)] 1))
  rw [own_ef_rm_rec m o]
  show own_Go _ _ _ _ _ (State.setTop _ (mkF _ 0 #[.val (.ref o)] []))
  refine own_aloadN X0 hx 1 rfl (hb hby own_d13_0) rfl rfl ?_
  refine own_initO X0 hx hZ hown (own_hw hw 84 rfl) (own_hw hw 21 rfl) (own_hw hw 22 rfl) e0 (by rw [hml]; rfl) 4 rfl (hb hby own_d13_1) (by decide) 0 (Nat.le_of_eq rfl) (by decide) fun T103 X103 e103 => ?_
  refine own_ret X103 none (fun _ => rfl) Bd.notSynchronized (by decide) (by decide) ?_ (fun fs hr => X103.returnOut hx Bd.returns (hb hby own_d13_4) hr)
  show Q_rm_rec Z o h0 n0 _ T103.heap _
  rw [e103]
  exact ⟨rfl, N0, rfl⟩
theorem own_pn3 : plainName "java/util/AbstractList" = true := by first | (simp [plainName, overriddenIn]; done) | decide +kernel
theorem own_ef_rm_abl (m : MethodId) (o : Addr) : entryFrame m #[(.ref o)] 1 = mkF m 0 #[.val (.ref o)] [] := by first | (simp [entryFrame, mkF, argsToLocals, Value.category]; done) | rfl
def Q_rm_abl (Z : State) (o : Addr) (h0 : Heap) (n0 : Nat) (v : Option Value) (h : Heap) (L : List Loc) : Prop := v = none ∧ Fr n0 L ∧ Keep h0 h [o] ∧ Exa Z h o "java/util/ArrayList" ∧ Fld Z h o "java/util/AbstractList" "modCount" "I" (.int (0 : Int32)) ∧ Fld Z h o "java/util/ArrayList" "elementData" "[Ljava/lang/Object;" .null ∧ Fld Z h o "java/util/ArrayList" "size" "I" (.int (0 : Int32))
theorem own_d8_0 : decode jdk_39_method_1_code 0 = .ok (.aload_n 0, 1) := by decide +kernel
theorem own_d8_1 : decode jdk_39_method_1_code 1 = .ok (.invokespecial 1, 3) := by decide +kernel
theorem own_pd0 : parseMethodDescriptor "()V" = some ⟨[], none⟩ := by decide +kernel
theorem own_d8_4 : decode jdk_39_method_1_code 4 = .ok (.aload_n 0, 1) := by decide +kernel
theorem own_d8_5 : decode jdk_39_method_1_code 5 = .ok (.iconst 0, 1) := by decide +kernel
theorem own_d8_6 : decode jdk_39_method_1_code 6 = .ok (.putfield 7, 3) := by decide +kernel
theorem own_d8_9 : decode jdk_39_method_1_code 9 = .ok (.return_, 1) := by decide +kernel
set_option maxRecDepth 65536 in
set_option maxHeartbeats 40000000 in
theorem rm_abl (l : Launch) (Z : State) (a0 : Array Value) (hw : ∀ d ∈ tables_1, d.before a0 Z = true) (ws : List Jvm.Cond) (o : Addr) (h0 : Heap) (n0 : Nat) (Z0 : n0 ≤ h0.size) (E1 : Exa Z h0 o "java/util/ArrayList") (F1 : Fld Z h0 o "java/util/AbstractList" "modCount" "I" (.int (0 : Int32))) (F2 : Fld Z h0 o "java/util/ArrayList" "elementData" "[Ljava/lang/Object;" .null) (F3 : Fld Z h0 o "java/util/ArrayList" "size" "I" (.int (0 : Int32))) (g_o : n0 ≤ o) :
    MetFree l (⟨"java/util/AbstractList", "<init>", "()V"⟩ : MethodName) (head1 (Jvm.Cond.code (⟨"java/util/AbstractList", "<init>", "()V"⟩ : MethodName) jdk_39_method_1_code 1 none :: ws) ({ frames := 2, cells := 0, slots := 0, locals := 30 } : Room)) (fun aa U => aa = #[(.ref o)] ∧ Z.Warmed39 U.vm ∧ U.heap = h0) (fun _ _ _ _ _ => True) (fun _ U ou U' => ∃ v L, ou = .returned v ∧ Q_rm_abl Z o h0 n0 v U'.heap L ∧ FrameEnd U ou U' L ({ frames := 2, cells := 0, slots := 0, locals := 30 } : Room).cells ({ frames := 2, cells := 0, slots := 0, locals := 30 } : Room).slots) := by
  refine MetFree.of_bodySF (plainFor_of_name own_pn3) hisR ?_
  intro p e s m args below meth c s₁ Bd hml0 hP hK
  obtain ⟨rfl, hZ, hh⟩ := hP
  have hx := Bd.exec
  have hby := Bd.bytes
  have hml : c.maxLocals = 1 := hml0
  have hown : s.vm.findClass "java/util/AbstractList" = some m.cls := findClass_of_methodNamed Bd.named
  have hnm := (name_of_methodNamed Bd.named Bd.method).1
  have X0 : Stand p l e ({ frames := 2, cells := 0, slots := 0, locals := 30 } : Room) s m #[(.ref o)] below meth c s₁ [] 0 0 := Stand.of_body Bd
  have e0 : s₁.heap = h0 := by rw [← hh, Bd.state]; rfl
  have N0 := Fr.nil n0
  have K0 := Keep.refl h0 [o]
  show own_Go p e below (fun o u L => FrameEnd s o u L ({ frames := 2, cells := 0, slots := 0, locals := 30 } : Room).cells ({ frames := 2, cells := 0, slots := 0, locals := 30 } : Room).slots) (Q_rm_abl Z o h0 n0) (s₁.setTop (entryFrame m #[(.ref o)] 1))
  rw [own_ef_rm_abl m o]
  show own_Go _ _ _ _ _ (State.setTop _ (mkF _ 0 #[.val (.ref o)] []))
  refine own_aloadN X0 hx 1 rfl (hb hby own_d8_0) rfl rfl ?_
  refine own_special X0 hx hZ (y := (⟨"java/util/AbstractCollection", "<init>", "()V"⟩ : MethodName)) hown rfl (own_hw hw 46 rfl) (own_hw hw 47 rfl) (a := o) (by decide) rfl (rm_abc l Z a0 hw [] o h0 n0 Z0 ) (own_hw hw 51 rfl) (own_hw hw 50 rfl) (by decide) e0 (by rw [hml]; rfl) [] 0 (by decide) (Nat.le_of_eq rfl) (by decide) (by decide) (lenOf own_pd0 rfl) rfl rfl 4 rfl (hb hby own_d8_1) fun v104 T104 Lc104 X104 hQ104 => ?_
  obtain ⟨rfl, Nq104, e104⟩ := hQ104
  have N105 := Fr.app N0 Nq104
  show own_Go _ _ _ _ _ (State.setTop _ (mkF _ 4 _ []))
  refine own_aloadN X104 hx 5 rfl (hb hby own_d8_4) rfl rfl ?_
  refine own_iconst X104 hx 6 rfl (hb hby own_d8_5) (0 : Int32) rfl ?_
  refine own_putF X104 hx hZ (host := "") hown (Or.inl (own_hw hw 53 rfl)) Via.refl e104 F1 E1 (Or.inl (own_hw hw 54 rfl)) (own_hw hw 35 rfl) (ty := .int) (by decide) rfl rfl 9 rfl (hb hby own_d8_6) fun T106 h106 X106 e106 W106 => ?_
  have f107 := E1.wr W106
  have f108 := F2.other W106 (Or.inr (slot_ne (Or.inl (own_hw hw 57 rfl)) (Or.inl (own_hw hw 54 rfl)) (by decide) (t := (.array (.object "java/lang/Object"))) (t' := .int) (by decide) (by decide)))
  have f109 := F3.other W106 (Or.inr (slot_ne (Or.inl (own_hw hw 101 rfl)) (Or.inl (own_hw hw 54 rfl)) (by decide) (t := .int) (t' := .int) (by decide) (by decide)))
  have z110 := Nat.le_trans Z0 (Keep.of_wr W106).1
  have K111 := K0.wr W106 (Or.inl (List.mem_of_getElem? (i := 0) rfl))
  have f112 := F1.same W106
  have N113 := Fr.snoc X106 N105 g_o
  refine own_ret X106 none (fun _ => rfl) Bd.notSynchronized (by decide) (by decide) ?_ (fun fs hr => X106.returnOut hx Bd.returns (hb hby own_d8_9) hr)
  show Q_rm_abl Z o h0 n0 _ T106.heap _
  rw [e106]
  exact ⟨rfl, N113, K111, f107, f112, f108, f109⟩
theorem own_pn4 : plainName "java/util/ArrayList" = true := by first | (simp [plainName, overriddenIn]; done) | decide +kernel
theorem own_ef_rm_al (m : MethodId) (o : Addr) : entryFrame m #[(.ref o)] 1 = mkF m 0 #[.val (.ref o)] [] := by first | (simp [entryFrame, mkF, argsToLocals, Value.category]; done) | rfl
def Q_rm_al (Z : State) (o : Addr) (aE : Addr) (h0 : Heap) (n0 : Nat) (v : Option Value) (h : Heap) (L : List Loc) : Prop := v = none ∧ Fr n0 L ∧ Keep h0 h [o] ∧ Exa Z h o "java/util/ArrayList" ∧ Fld Z h o "java/util/AbstractList" "modCount" "I" (.int (0 : Int32)) ∧ Fld Z h o "java/util/ArrayList" "elementData" "[Ljava/lang/Object;" (.ref aE) ∧ Fld Z h o "java/util/ArrayList" "size" "I" (.int (0 : Int32))
theorem own_d7_0 : decode jdk_38_method_2_code 0 = .ok (.aload_n 0, 1) := by decide +kernel
theorem own_d7_1 : decode jdk_38_method_2_code 1 = .ok (.invokespecial 1, 3) := by decide +kernel
theorem own_d7_4 : decode jdk_38_method_2_code 4 = .ok (.aload_n 0, 1) := by decide +kernel
theorem own_d7_5 : decode jdk_38_method_2_code 5 = .ok (.getstatic 39, 3) := by decide +kernel
theorem own_d7_8 : decode jdk_38_method_2_code 8 = .ok (.putfield 9, 3) := by decide +kernel
theorem own_d7_11 : decode jdk_38_method_2_code 11 = .ok (.return_, 1) := by decide +kernel
set_option maxRecDepth 65536 in
set_option maxHeartbeats 40000000 in
theorem rm_al (l : Launch) (Z : State) (a0 : Array Value) (hw : ∀ d ∈ tables_1, d.before a0 Z = true) (ws : List Jvm.Cond) (o : Addr) (aE : Addr) (h0 : Heap) (n0 : Nat) (Z0 : n0 ≤ h0.size) (E1 : Exa Z h0 o "java/util/ArrayList") (F1 : Fld Z h0 o "java/util/AbstractList" "modCount" "I" (.int (0 : Int32))) (F2 : Fld Z h0 o "java/util/ArrayList" "elementData" "[Ljava/lang/Object;" .null) (F3 : Fld Z h0 o "java/util/ArrayList" "size" "I" (.int (0 : Int32))) (g_o : n0 ≤ o) (S1 : Sta Z h0 "java/util/ArrayList" "DEFAULTCAPACITY_EMPTY_ELEMENTDATA" "[Ljava/lang/Object;" (.ref aE)) :
    MetFree l (⟨"java/util/ArrayList", "<init>", "()V"⟩ : MethodName) (head1 (Jvm.Cond.code (⟨"java/util/ArrayList", "<init>", "()V"⟩ : MethodName) jdk_38_method_2_code 1 none :: ws) ({ frames := 3, cells := 0, slots := 0, locals := 45 } : Room)) (fun aa U => aa = #[(.ref o)] ∧ Z.Warmed39 U.vm ∧ U.heap = h0) (fun _ _ _ _ _ => True) (fun _ U ou U' => ∃ v L, ou = .returned v ∧ Q_rm_al Z o aE h0 n0 v U'.heap L ∧ FrameEnd U ou U' L ({ frames := 3, cells := 0, slots := 0, locals := 45 } : Room).cells ({ frames := 3, cells := 0, slots := 0, locals := 45 } : Room).slots) := by
  refine MetFree.of_bodySF (plainFor_of_name own_pn4) hisR ?_
  intro p e s m args below meth c s₁ Bd hml0 hP hK
  obtain ⟨rfl, hZ, hh⟩ := hP
  have hx := Bd.exec
  have hby := Bd.bytes
  have hml : c.maxLocals = 1 := hml0
  have hown : s.vm.findClass "java/util/ArrayList" = some m.cls := findClass_of_methodNamed Bd.named
  have hnm := (name_of_methodNamed Bd.named Bd.method).1
  have X0 : Stand p l e ({ frames := 3, cells := 0, slots := 0, locals := 45 } : Room) s m #[(.ref o)] below meth c s₁ [] 0 0 := Stand.of_body Bd
  have e0 : s₁.heap = h0 := by rw [← hh, Bd.state]; rfl
  have N0 := Fr.nil n0
  have K0 := Keep.refl h0 [o]
  show own_Go p e below (fun o u L => FrameEnd s o u L ({ frames := 3, cells := 0, slots := 0, locals := 45 } : Room).cells ({ frames := 3, cells := 0, slots := 0, locals := 45 } : Room).slots) (Q_rm_al Z o aE h0 n0) (s₁.setTop (entryFrame m #[(.ref o)] 1))
  rw [own_ef_rm_al m o]
  show own_Go _ _ _ _ _ (State.setTop _ (mkF _ 0 #[.val (.ref o)] []))
  refine own_aloadN X0 hx 1 rfl (hb hby own_d7_0) rfl rfl ?_
  refine own_special X0 hx hZ (y := (⟨"java/util/AbstractList", "<init>", "()V"⟩ : MethodName)) hown rfl (own_hw hw 40 rfl) (own_hw hw 41 rfl) (a := o) (by decide) rfl (rm_abl l Z a0 hw [] o h0 n0 Z0 E1 F1 F2 F3 g_o) (own_hw hw 45 rfl) (own_hw hw 44 rfl) (by decide) e0 (by rw [hml]; rfl) [] 0 (by decide) (Nat.le_of_eq rfl) (by decide) (by decide) (lenOf own_pd0 rfl) rfl rfl 4 rfl (hb hby own_d7_1) fun v114 T114 Lc114 X114 hQ114 => ?_
  obtain ⟨rfl, Nq114, Kq114, f115, f116, f117, f118⟩ := hQ114
  have N119 := Fr.app N0 Nq114
  have f120 := E1.keep Kq114
  have f124 := own_staKeep S1 Kq114 (nsS E1.nostat ns0)
  have z125 := Nat.le_trans Z0 Kq114.1
  have K126 := K0.trans Kq114 (allS (Or.inl (List.mem_of_getElem? (i := 0) rfl)) all0)
  show own_Go _ _ _ _ _ (State.setTop _ (mkF _ 4 _ []))
  refine own_aloadN X114 hx 5 rfl (hb hby own_d7_4) rfl rfl ?_
  refine own_getS X114 hx hZ (host := "") hown (Or.inl (own_hw hw 55 rfl)) Via.refl rfl f124 8 rfl (hb hby own_d7_5) fun T127 X127 e127 => ?_
  refine own_putF X127 hx hZ (host := "") hown (Or.inl (own_hw hw 56 rfl)) Via.refl e127 f117 f115 (Or.inl (own_hw hw 57 rfl)) (own_hw hw 35 rfl) (ty := (.array (.object "java/lang/Object"))) (by decide) rfl rfl 11 rfl (hb hby own_d7_8) fun T128 h128 X128 e128 W128 => ?_
  have f129 := f115.wr W128
  have f130 := f124.wr W128
  have f131 := f116.other W128 (Or.inr (slot_ne (Or.inl (own_hw hw 54 rfl)) (Or.inl (own_hw hw 57 rfl)) (by decide) (t := .int) (t' := (.array (.object "java/lang/Object"))) (by decide) (by decide)))
  have f132 := f118.other W128 (Or.inr (slot_ne (Or.inl (own_hw hw 101 rfl)) (Or.inl (own_hw hw 57 rfl)) (by decide) (t := .int) (t' := (.array (.object "java/lang/Object"))) (by decide) (by decide)))
  have z133 := Nat.le_trans z125 (Keep.of_wr W128).1
  have K134 := K126.wr W128 (Or.inl (List.mem_of_getElem? (i := 0) rfl))
  have f135 := f117.same W128
  have N136 := Fr.snoc X128 N119 g_o
  refine own_ret X128 none (fun _ => rfl) Bd.notSynchronized (by decide) (by decide) ?_ (fun fs hr => X128.returnOut hx Bd.returns (hb hby own_d7_11) hr)
  show Q_rm_al Z o aE h0 n0 _ T128.heap _
  rw [e128]
  exact ⟨rfl, N136, K134, f129, f131, f135, f132⟩
theorem own_pn5 : plainName "com/example/measured_reasoner/measuredreasoner/Summary" = true := by first | (simp [plainName, overriddenIn]; done) | decide +kernel
theorem own_ef_rm_su (m : MethodId) (o : Addr) : entryFrame m #[(.ref o)] 1 = mkF m 0 #[.val (.ref o)] [] := by first | (simp [entryFrame, mkF, argsToLocals, Value.category]; done) | rfl
def Q_rm_su (Z : State) (o : Addr) (aE : Addr) (h0 : Heap) (n0 : Nat) (v : Option Value) (h : Heap) (L : List Loc) : Prop := ∃ (li : Addr), v = none ∧ Fr n0 L ∧ Keep h0 h [o] ∧ h0.size ≤ li ∧ Exa Z h o "com/example/measured_reasoner/measuredreasoner/Summary" ∧ Fld Z h o "com/example/measured_reasoner/measuredreasoner/Summary" "fields" "Ljava/util/List;" (.ref li) ∧ Exa Z h li "java/util/ArrayList" ∧ Fld Z h li "java/util/AbstractList" "modCount" "I" (.int (0 : Int32)) ∧ Fld Z h li "java/util/ArrayList" "elementData" "[Ljava/lang/Object;" (.ref aE) ∧ Fld Z h li "java/util/ArrayList" "size" "I" (.int (0 : Int32))
theorem own_d6_0 : decode prog_19_method_1_code 0 = .ok (.aload_n 0, 1) := by decide +kernel
theorem own_d6_1 : decode prog_19_method_1_code 1 = .ok (.invokespecial 1, 3) := by decide +kernel
theorem own_d6_4 : decode prog_19_method_1_code 4 = .ok (.aload_n 0, 1) := by decide +kernel
theorem own_d6_5 : decode prog_19_method_1_code 5 = .ok (.new 7, 3) := by decide +kernel
theorem own_d6_8 : decode prog_19_method_1_code 8 = .ok (.dup, 1) := by decide +kernel
theorem own_d6_9 : decode prog_19_method_1_code 9 = .ok (.invokespecial 9, 3) := by decide +kernel
theorem own_d6_12 : decode prog_19_method_1_code 12 = .ok (.putfield 10, 3) := by decide +kernel
theorem own_d6_15 : decode prog_19_method_1_code 15 = .ok (.return_, 1) := by decide +kernel
set_option maxRecDepth 65536 in
set_option maxHeartbeats 40000000 in
theorem rm_su (l : Launch) (Z : State) (a0 : Array Value) (hw : ∀ d ∈ tables_1, d.before a0 Z = true) (ws : List Jvm.Cond) (o : Addr) (aE : Addr) (h0 : Heap) (n0 : Nat) (Z0 : n0 ≤ h0.size) (E1 : Exa Z h0 o "com/example/measured_reasoner/measuredreasoner/Summary") (F1 : Fld Z h0 o "com/example/measured_reasoner/measuredreasoner/Summary" "fields" "Ljava/util/List;" .null) (g_o : n0 ≤ o) (S1 : Sta Z h0 "java/util/ArrayList" "DEFAULTCAPACITY_EMPTY_ELEMENTDATA" "[Ljava/lang/Object;" (.ref aE)) :
    MetFree l (⟨"com/example/measured_reasoner/measuredreasoner/Summary", "<init>", "()V"⟩ : MethodName) (head1 (Jvm.Cond.code (⟨"com/example/measured_reasoner/measuredreasoner/Summary", "<init>", "()V"⟩ : MethodName) prog_19_method_1_code 1 none :: ws) ({ frames := 4, cells := 1, slots := 3, locals := 60 } : Room)) (fun aa U => aa = #[(.ref o)] ∧ Z.Warmed39 U.vm ∧ U.heap = h0) (fun _ _ _ _ _ => True) (fun _ U ou U' => ∃ v L, ou = .returned v ∧ Q_rm_su Z o aE h0 n0 v U'.heap L ∧ FrameEnd U ou U' L ({ frames := 4, cells := 1, slots := 3, locals := 60 } : Room).cells ({ frames := 4, cells := 1, slots := 3, locals := 60 } : Room).slots) := by
  refine MetFree.of_bodySF (plainFor_of_name own_pn5) hisR ?_
  intro p e s m args below meth c s₁ Bd hml0 hP hK
  obtain ⟨rfl, hZ, hh⟩ := hP
  have hx := Bd.exec
  have hby := Bd.bytes
  have hml : c.maxLocals = 1 := hml0
  have hown : s.vm.findClass "com/example/measured_reasoner/measuredreasoner/Summary" = some m.cls := findClass_of_methodNamed Bd.named
  have hnm := (name_of_methodNamed Bd.named Bd.method).1
  have X0 : Stand p l e ({ frames := 4, cells := 1, slots := 3, locals := 60 } : Room) s m #[(.ref o)] below meth c s₁ [] 0 0 := Stand.of_body Bd
  have e0 : s₁.heap = h0 := by rw [← hh, Bd.state]; rfl
  have N0 := Fr.nil n0
  have K0 := Keep.refl h0 [o]
  show own_Go p e below (fun o u L => FrameEnd s o u L ({ frames := 4, cells := 1, slots := 3, locals := 60 } : Room).cells ({ frames := 4, cells := 1, slots := 3, locals := 60 } : Room).slots) (Q_rm_su Z o aE h0 n0) (s₁.setTop (entryFrame m #[(.ref o)] 1))
  rw [own_ef_rm_su m o]
  show own_Go _ _ _ _ _ (State.setTop _ (mkF _ 0 #[.val (.ref o)] []))
  refine own_aloadN X0 hx 1 rfl (hb hby own_d6_0) rfl rfl ?_
  refine own_initO X0 hx hZ hown (own_hw hw 33 rfl) (own_hw hw 21 rfl) (own_hw hw 22 rfl) e0 (by rw [hml]; rfl) 4 rfl (hb hby own_d6_1) (by decide) 0 (Nat.le_of_eq rfl) (by decide) fun T137 X137 e137 => ?_
  refine own_aloadN X137 hx 5 rfl (hb hby own_d6_4) rfl rfl ?_
  refine own_new X137 hx hZ hown (own_hw hw 34 rfl) (own_hw hw 35 rfl) (own_hw hw 36 rfl) e137 8 rfl (hb hby own_d6_5) (by decide) (by decide) fun T138 h138 b138 g138 X138 e138 E138 A138 D138 => ?_
  have ne139 : o ≠ b138 := Nat.ne_of_lt (Nat.lt_of_lt_of_le E1.lt (Nat.le_of_eq g138.symm))
  have ge140 : n0 ≤ b138 := Nat.le_trans Z0 (Nat.le_of_eq g138.symm)
  have sz141 : h0.size ≤ b138 := Nat.le_trans K0.1 (Nat.le_of_eq g138.symm)
  have f142 := E1.ext E138
  have f143 := F1.ext E138
  have f144 := S1.ext E138
  have z145 := Nat.le_trans Z0 E138.1
  have K146 := K0.ext E138
  have f147 : Fld Z h138 b138 "java/util/AbstractList" "modCount" "I" (.int (0 : Int32)) := D138 (Or.inl (own_hw hw 54 rfl)) (ty := .int) (by decide)
  have f148 : Fld Z h138 b138 "java/util/ArrayList" "elementData" "[Ljava/lang/Object;" .null := D138 (Or.inl (own_hw hw 57 rfl)) (ty := (.array (.object "java/lang/Object"))) (by decide)
  have f149 : Fld Z h138 b138 "java/util/ArrayList" "size" "I" (.int (0 : Int32)) := D138 (Or.inl (own_hw hw 101 rfl)) (ty := .int) (by decide)
  refine own_dup X138 hx 9 rfl (hb hby own_d6_8) rfl ?_
  refine own_special X138 hx hZ (y := (⟨"java/util/ArrayList", "<init>", "()V"⟩ : MethodName)) hown rfl (own_hw hw 37 rfl) (own_hw hw 38 rfl) (a := b138) (by decide) rfl (rm_al l Z a0 hw [] b138 aE h138 n0 z145 A138 f147 f148 f149 ge140 f144) (own_hw hw 39 rfl) (own_hw hw 36 rfl) (by decide) e138 (by rw [hml]; rfl) [] 2 (by decide) (Nat.le_of_eq rfl) (by decide) (by decide) (lenOf own_pd0 rfl) rfl rfl 12 rfl (hb hby own_d6_9) fun v150 T150 Lc150 X150 hQ150 => ?_
  obtain ⟨rfl, Nq150, Kq150, f151, f152, f153, f154⟩ := hQ150
  have N155 := Fr.app N0 Nq150
  have f156 := f142.keep Kq150
  have f157 := f143.keep Kq150 (ninS ne139 nin0)
  have f158 := own_staKeep f144 Kq150 (nsS A138.nostat ns0)
  have f159 := A138.keep Kq150
  have z163 := Nat.le_trans z145 Kq150.1
  have K164 := K146.trans Kq150 (allS (Or.inr sz141) all0)
  show own_Go _ _ _ _ _ (State.setTop _ (mkF _ 12 _ [(.ref b138), (.ref o)]))
  refine own_putF X150 hx hZ (host := "") hown (Or.inl (own_hw hw 58 rfl)) Via.refl rfl f157 f156 (Or.inr ⟨(own_hw hw 59 rfl), rfl, hnm⟩) (own_hw hw 28 rfl) (ty := (.object "java/util/List")) (by decide) rfl rfl 15 rfl (hb hby own_d6_12) fun T165 h165 X165 e165 W165 => ?_
  have f166 := f156.wr W165
  have f167 := f158.wr W165
  have f168 := f151.wr W165
  have f169 := f152.other W165 (Or.inl (Ne.symm ne139))
  have f170 := f153.other W165 (Or.inl (Ne.symm ne139))
  have f171 := f154.other W165 (Or.inl (Ne.symm ne139))
  have z172 := Nat.le_trans z163 (Keep.of_wr W165).1
  have K173 := K164.wr W165 (Or.inl (List.mem_of_getElem? (i := 0) rfl))
  have f174 := f157.same W165
  have N175 := Fr.snoc X165 N155 g_o
  refine own_ret X165 none (fun _ => rfl) Bd.notSynchronized (by decide) (by decide) ?_ (fun fs hr => X165.returnOut hx Bd.returns (hb hby own_d6_15) hr)
  show Q_rm_su Z o aE h0 n0 _ T165.heap _
  rw [e165]
  exact ⟨b138, rfl, N175, K173, sz141, f166, f174, f168, f169, f170, f171⟩
theorem own_ef_rm_max (m : MethodId)  : entryFrame m #[(.int (10 : Int32)), (.int (1 : Int32))] 2 = mkF m 0 #[.val (.int (10 : Int32)), .val (.int (1 : Int32))] [] := by first | (simp [entryFrame, mkF, argsToLocals, Value.category]; done) | rfl
def Q_rm_max (Z : State)  (h0 : Heap) (n0 : Nat) (v : Option Value) (h : Heap) (L : List Loc) : Prop := v = some (.int (10 : Int32)) ∧ Fr n0 L ∧ h = h0
theorem own_d18_0 : decode jdk_29_method_65_code 0 = .ok (.iload_n 0, 1) := by decide +kernel
theorem own_d18_1 : decode jdk_29_method_65_code 1 = .ok (.iload_n 1, 1) := by decide +kernel
theorem own_d18_2 : decode jdk_29_method_65_code 2 = .ok (.if_icmp .lt 7, 3) := by decide +kernel
theorem own_d18_5 : decode jdk_29_method_65_code 5 = .ok (.iload_n 0, 1) := by decide +kernel
theorem own_d18_6 : decode jdk_29_method_65_code 6 = .ok (.goto 4, 3) := by decide +kernel
theorem own_d18_10 : decode jdk_29_method_65_code 10 = .ok (.ireturn, 1) := by decide +kernel
set_option maxRecDepth 65536 in
set_option maxHeartbeats 40000000 in
theorem rm_max (l : Launch) (Z : State) (a0 : Array Value) (hw : ∀ d ∈ tables_1, d.before a0 Z = true) (ws : List Jvm.Cond)  (h0 : Heap) (n0 : Nat) (Z0 : n0 ≤ h0.size)  :
    MetFree l (⟨"java/lang/Math", "max", "(II)I"⟩ : MethodName) (head1 (Jvm.Cond.code (⟨"java/lang/Math", "max", "(II)I"⟩ : MethodName) jdk_29_method_65_code 2 (some .int) :: ws) ({ frames := 0, cells := 0, slots := 0, locals := 0 } : Room)) (fun aa U => aa = #[(.int (10 : Int32)), (.int (1 : Int32))] ∧ Z.Warmed39 U.vm ∧ U.heap = h0) (fun _ _ _ _ _ => True) (fun _ U ou U' => ∃ v L, ou = .returned v ∧ Q_rm_max Z  h0 n0 v U'.heap L ∧ FrameEnd U ou U' L ({ frames := 0, cells := 0, slots := 0, locals := 0 } : Room).cells ({ frames := 0, cells := 0, slots := 0, locals := 0 } : Room).slots) := by
  refine MetFree.of_bodySF (Jvm.Free.JP.mathPlain rfl (by decide +kernel)) hisR ?_
  intro p e s m args below meth c s₁ Bd hml0 hP hK
  obtain ⟨rfl, hZ, hh⟩ := hP
  have hx := Bd.exec
  have hby := Bd.bytes
  have hml : c.maxLocals = 2 := hml0
  have hown : s.vm.findClass "java/lang/Math" = some m.cls := findClass_of_methodNamed Bd.named
  have hnm := (name_of_methodNamed Bd.named Bd.method).1
  have X0 : Stand p l e ({ frames := 0, cells := 0, slots := 0, locals := 0 } : Room) s m #[(.int (10 : Int32)), (.int (1 : Int32))] below meth c s₁ [] 0 0 := Stand.of_body Bd
  have e0 : s₁.heap = h0 := by rw [← hh, Bd.state]; rfl
  have N0 := Fr.nil n0
  show own_Go p e below (fun o u L => FrameEnd s o u L ({ frames := 0, cells := 0, slots := 0, locals := 0 } : Room).cells ({ frames := 0, cells := 0, slots := 0, locals := 0 } : Room).slots) (Q_rm_max Z  h0 n0) (s₁.setTop (entryFrame m #[(.int (10 : Int32)), (.int (1 : Int32))] 2))
  rw [own_ef_rm_max m ]
  show own_Go _ _ _ _ _ (State.setTop _ (mkF _ 0 #[.val (.int (10 : Int32)), .val (.int (1 : Int32))] []))
  refine own_iloadN X0 hx 1 rfl (hb hby own_d18_0) rfl ?_
  refine own_iloadN X0 hx 2 rfl (hb hby own_d18_1) rfl ?_
  refine own_icmpNo X0 hx 5 rfl (hb hby own_d18_2) (by decide) ?_
  refine own_iloadN X0 hx 6 rfl (hb hby own_d18_5) rfl ?_
  refine own_goto X0 hx 10 (hb hby own_d18_6) (by decide) rfl ?_
  refine own_ret X0 (some (.int (10 : Int32))) (fun h => by rw [Bd.returns] at h; cases h) Bd.notSynchronized (by decide) (by decide) ?_ (fun fs hr => own_retI X0 hx Bd.returns (hb hby own_d18_10) hr)
  show Q_rm_max Z  h0 n0 _ s₁.heap _
  rw [e0]
  exact ⟨rfl, N0, rfl⟩
theorem own_ef_rm_grow1 (m : MethodId) (o : Addr) : entryFrame m #[(.ref o), (.int (1 : Int32))] 4 = mkF m 0 #[.val (.ref o), .val (.int (1 : Int32)), .unset, .unset] [] := by first | (simp [entryFrame, mkF, argsToLocals, Value.category]; done) | rfl
def Q_rm_grow1 (Z : State) (o : Addr) (aE : Addr) (kE : ClassId) (mc : Int32) (h0 : Heap) (n0 : Nat) (v : Option Value) (h : Heap) (L : List Loc) : Prop := ∃ (b : Addr) (kb : ClassId), v = some (.ref b) ∧ Fr n0 L ∧ Keep h0 h [o] ∧ h0.size ≤ b ∧ Exa Z h o "java/util/ArrayList" ∧ Fld Z h o "java/util/AbstractList" "modCount" "I" (.int mc) ∧ Fld Z h o "java/util/ArrayList" "elementData" "[Ljava/lang/Object;" (.ref b) ∧ Fld Z h o "java/util/ArrayList" "size" "I" (.int (0 : Int32)) ∧ Arv Z h b kb (.object "java/lang/Object") (10 : Int32) [.null, .null, .null, .null, .null, .null, .null, .null, .null, .null] .null ∧ Ovr Z kb "java/lang/Object"
theorem own_d17_0 : decode jdk_38_method_6_code 0 = .ok (.aload_n 0, 1) := by decide +kernel
theorem own_d17_1 : decode jdk_38_method_6_code 1 = .ok (.getfield 9, 3) := by decide +kernel
theorem own_d17_4 : decode jdk_38_method_6_code 4 = .ok (.arraylength, 1) := by decide +kernel
theorem own_d17_5 : decode jdk_38_method_6_code 5 = .ok (.istore_n 2, 1) := by decide +kernel
theorem own_d17_6 : decode jdk_38_method_6_code 6 = .ok (.iload_n 2, 1) := by decide +kernel
theorem own_d17_7 : decode jdk_38_method_6_code 7 = .ok (.ifCond .gt 13, 3) := by decide +kernel
theorem own_d17_10 : decode jdk_38_method_6_code 10 = .ok (.aload_n 0, 1) := by decide +kernel
theorem own_d17_11 : decode jdk_38_method_6_code 11 = .ok (.getfield 9, 3) := by decide +kernel
theorem own_d17_14 : decode jdk_38_method_6_code 14 = .ok (.getstatic 39, 3) := by decide +kernel
theorem own_d17_17 : decode jdk_38_method_6_code 17 = .ok (.if_acmp .eq 28, 3) := by decide +kernel
theorem own_d17_45 : decode jdk_38_method_6_code 45 = .ok (.aload_n 0, 1) := by decide +kernel
theorem own_d17_46 : decode jdk_38_method_6_code 46 = .ok (.bipush 10, 2) := by decide +kernel
theorem own_d17_48 : decode jdk_38_method_6_code 48 = .ok (.iload_n 1, 1) := by decide +kernel
theorem own_d17_49 : decode jdk_38_method_6_code 49 = .ok (.invokestatic 79, 3) := by decide +kernel
theorem own_pd1 : parseMethodDescriptor "(II)I" = some ⟨[.int, .int], some .int⟩ := by decide +kernel
theorem own_d17_52 : decode jdk_38_method_6_code 52 = .ok (.anewarray 7, 3) := by decide +kernel
theorem own_d17_55 : decode jdk_38_method_6_code 55 = .ok (.dup_x1, 1) := by decide +kernel
theorem own_d17_56 : decode jdk_38_method_6_code 56 = .ok (.putfield 9, 3) := by decide +kernel
theorem own_d17_59 : decode jdk_38_method_6_code 59 = .ok (.areturn, 1) := by decide +kernel
set_option maxRecDepth 65536 in
set_option maxHeartbeats 40000000 in
theorem rm_grow1 (l : Launch) (Z : State) (a0 : Array Value) (hw : ∀ d ∈ tables_1, d.before a0 Z = true) (ws : List Jvm.Cond) (o : Addr) (aE : Addr) (kE : ClassId) (mc : Int32) (h0 : Heap) (n0 : Nat) (Z0 : n0 ≤ h0.size) (E1 : Exa Z h0 o "java/util/ArrayList") (F1 : Fld Z h0 o "java/util/AbstractList" "modCount" "I" (.int mc)) (F2 : Fld Z h0 o "java/util/ArrayList" "elementData" "[Ljava/lang/Object;" (.ref aE)) (F3 : Fld Z h0 o "java/util/ArrayList" "size" "I" (.int (0 : Int32))) (A1 : Arv Z h0 aE kE (.object "java/lang/Object") (0 : Int32) [] .null) (S1 : Sta Z h0 "java/util/ArrayList" "DEFAULTCAPACITY_EMPTY_ELEMENTDATA" "[Ljava/lang/Object;" (.ref aE)) (g_o : n0 ≤ o) (ne_oE : o ≠ aE) :
    MetFree l (⟨"java/util/ArrayList", "grow", "(I)[Ljava/lang/Object;"⟩ : MethodName) (head1 (Jvm.Cond.code (⟨"java/util/ArrayList", "grow", "(I)[Ljava/lang/Object;"⟩ : MethodName) jdk_38_method_6_code 4 (some (.array (.object "java/lang/Object"))) :: ws) ({ frames := 1, cells := 1, slots := 10, locals := 16 } : Room)) (fun aa U => aa = #[(.ref o), (.int (1 : Int32))] ∧ Z.Warmed39 U.vm ∧ U.heap = h0) (fun _ _ _ _ _ => True) (fun _ U ou U' => ∃ v L, ou = .returned v ∧ Q_rm_grow1 Z o aE kE mc h0 n0 v U'.heap L ∧ FrameEnd U ou U' L ({ frames := 1, cells := 1, slots := 10, locals := 16 } : Room).cells ({ frames := 1, cells := 1, slots := 10, locals := 16 } : Room).slots) := by
  refine MetFree.of_bodySF (plainFor_of_name own_pn4) hisR ?_
  intro p e s m args below meth c s₁ Bd hml0 hP hK
  obtain ⟨rfl, hZ, hh⟩ := hP
  have hx := Bd.exec
  have hby := Bd.bytes
  have hml : c.maxLocals = 4 := hml0
  have hown : s.vm.findClass "java/util/ArrayList" = some m.cls := findClass_of_methodNamed Bd.named
  have hnm := (name_of_methodNamed Bd.named Bd.method).1
  have X0 : Stand p l e ({ frames := 1, cells := 1, slots := 10, locals := 16 } : Room) s m #[(.ref o), (.int (1 : Int32))] below meth c s₁ [] 0 0 := Stand.of_body Bd
  have e0 : s₁.heap = h0 := by rw [← hh, Bd.state]; rfl
  have N0 := Fr.nil n0
  have K0 := Keep.refl h0 [o]
  show own_Go p e below (fun o u L => FrameEnd s o u L ({ frames := 1, cells := 1, slots := 10, locals := 16 } : Room).cells ({ frames := 1, cells := 1, slots := 10, locals := 16 } : Room).slots) (Q_rm_grow1 Z o aE kE mc h0 n0) (s₁.setTop (entryFrame m #[(.ref o), (.int (1 : Int32))] 4))
  rw [own_ef_rm_grow1 m o]
  show own_Go _ _ _ _ _ (State.setTop _ (mkF _ 0 #[.val (.ref o), .val (.int (1 : Int32)), .unset, .unset] []))
  refine own_aloadN X0 hx 1 rfl (hb hby own_d17_0) rfl rfl ?_
  refine own_getF X0 hx hZ (host := "") hown (Or.inl (own_hw hw 56 rfl)) Via.refl e0 F2 4 rfl (hb hby own_d17_1) fun T176 X176 e176 => ?_
  refine own_len X176 hx hZ e176 A1 5 rfl (hb hby own_d17_4) ?_
  refine own_istoreN X176 hx 6 rfl (hb hby own_d17_5) #[.val (.ref o), .val (.int (1 : Int32)), .val (.int (0 : Int32)), .unset] rfl ?_
  refine own_iloadN X176 hx 7 rfl (hb hby own_d17_6) rfl ?_
  refine own_ifNo X176 hx 10 rfl (hb hby own_d17_7) (by decide) ?_
  refine own_aloadN X176 hx 11 rfl (hb hby own_d17_10) rfl rfl ?_
  refine own_getF X176 hx hZ (host := "") hown (Or.inl (own_hw hw 56 rfl)) Via.refl e176 F2 14 rfl (hb hby own_d17_11) fun T177 X177 e177 => ?_
  refine own_getS X177 hx hZ (host := "") hown (Or.inl (own_hw hw 55 rfl)) Via.refl e177 S1 17 rfl (hb hby own_d17_14) fun T178 X178 e178 => ?_
  refine own_acmp X178 hx true 45 (hb hby own_d17_17) rfl rfl (decide_eq_true rfl) (by decide) (by decide) ?_
  refine own_aloadN X178 hx 46 rfl (hb hby own_d17_45) rfl rfl ?_
  refine own_bipush X178 hx 48 rfl (hb hby own_d17_46) (10 : Int32) rfl ?_
  refine own_iloadN X178 hx 49 rfl (hb hby own_d17_48) rfl ?_
  refine own_callS X178 hx hZ (y := (⟨"java/lang/Math", "max", "(II)I"⟩ : MethodName)) hown (own_hw hw 117 rfl) (own_hw hw 118 rfl) (by decide) (rm_max l Z a0 hw []  h0 n0 Z0 ) (own_hw hw 120 rfl) (own_hw hw 119 rfl) (by decide) e178 (by rw [hml]; rfl) [(.int (10 : Int32)), (.int (1 : Int32))] 1 (by decide) (Nat.le_of_eq rfl) (by decide) (by decide) (lenOf own_pd1 rfl) rfl rfl 52 rfl (hb hby own_d17_49) fun v179 T179 Lc179 X179 hQ179 => ?_
  obtain ⟨rfl, Nq179, e179⟩ := hQ179
  have N180 := Fr.app N0 Nq179
  show own_Go _ _ _ _ _ (State.setTop _ (mkF _ 52 _ [(.int (10 : Int32)), (.ref o)]))
  refine own_newR X179 hx hZ hown (own_hw hw 121 rfl) (own_hw hw 122 rfl) e179 55 rfl (hb hby own_d17_52) (by decide) 10 (by decide) (by decide) (by decide) (by decide) fun T181 h181 k181 b181 g181 X181 e181 E181 A181 O181 => ?_
  have ne182 : o ≠ b181 := Nat.ne_of_lt (Nat.lt_of_lt_of_le E1.lt (Nat.le_of_eq g181.symm))
  have ne183 : aE ≠ b181 := Nat.ne_of_lt (Nat.lt_of_lt_of_le A1.lt (Nat.le_of_eq g181.symm))
  have ge184 : n0 ≤ b181 := Nat.le_trans Z0 (Nat.le_of_eq g181.symm)
  have sz185 : h0.size ≤ b181 := Nat.le_trans K0.1 (Nat.le_of_eq g181.symm)
  have f186 := E1.ext E181
  have f187 := F1.ext E181
  have f188 := F2.ext E181
  have f189 := F3.ext E181
  have f190 := A1.ext E181
  have f191 := S1.ext E181
  have z192 := Nat.le_trans Z0 E181.1
  have K193 := K0.ext E181
  have f194 : Arv Z h181 b181 k181 (.object "java/lang/Object") (10 : Int32) [.null, .null, .null, .null, .null, .null, .null, .null, .null, .null] .null := (Arv.new A181 (by decide)).pad (pad_rep [] .null 10)
  refine own_dupX1 X181 hx 56 rfl (hb hby own_d17_55) rfl rfl ?_
  refine own_putF X181 hx hZ (host := "") hown (Or.inl (own_hw hw 56 rfl)) Via.refl e181 f188 f186 (Or.inl (own_hw hw 57 rfl)) (own_hw hw 35 rfl) (ty := (.array (.object "java/lang/Object"))) (by decide) rfl rfl 59 rfl (hb hby own_d17_56) fun T195 h195 X195 e195 W195 => ?_
  have f196 := f186.wr W195
  have f197 := f187.other W195 (Or.inr (slot_ne (Or.inl (own_hw hw 54 rfl)) (Or.inl (own_hw hw 57 rfl)) (by decide) (t := .int) (t' := (.array (.object "java/lang/Object"))) (by decide) (by decide)))
  have f198 := f189.other W195 (Or.inr (slot_ne (Or.inl (own_hw hw 101 rfl)) (Or.inl (own_hw hw 57 rfl)) (by decide) (t := .int) (t' := (.array (.object "java/lang/Object"))) (by decide) (by decide)))
  have f199 := f190.other W195 (Ne.symm ne_oE)
  have f200 := f191.wr W195
  have f201 := f194.other W195 (Ne.symm ne182)
  have z202 := Nat.le_trans z192 (Keep.of_wr W195).1
  have K203 := K193.wr W195 (Or.inl (List.mem_of_getElem? (i := 0) rfl))
  have f204 := f188.same W195
  have N205 := Fr.snoc X195 N180 g_o
  refine own_ret X195 (some (.ref b181)) (fun h => by rw [Bd.returns] at h; cases h) Bd.notSynchronized (by decide) (by decide) ?_ (fun fs hr => own_retR X195 hx Bd.returns rfl rfl (hb hby own_d17_59) hr)
  show Q_rm_grow1 Z o aE kE mc h0 n0 _ T195.heap _
  rw [e195]
  exact ⟨b181, k181, rfl, N205, K203, sz185, f196, f197, f204, f198, f201, O181⟩
theorem own_ef_rm_grow (m : MethodId) (o : Addr) : entryFrame m #[(.ref o)] 1 = mkF m 0 #[.val (.ref o)] [] := by first | (simp [entryFrame, mkF, argsToLocals, Value.category]; done) | rfl
def Q_rm_grow (Z : State) (o : Addr) (aE : Addr) (kE : ClassId) (mc : Int32) (h0 : Heap) (n0 : Nat) (v : Option Value) (h : Heap) (L : List Loc) : Prop := ∃ (b : Addr) (kb : ClassId), v = some (.ref b) ∧ Fr n0 L ∧ Keep h0 h [o] ∧ h0.size ≤ b ∧ Exa Z h o "java/util/ArrayList" ∧ Fld Z h o "java/util/AbstractList" "modCount" "I" (.int mc) ∧ Fld Z h o "java/util/ArrayList" "elementData" "[Ljava/lang/Object;" (.ref b) ∧ Fld Z h o "java/util/ArrayList" "size" "I" (.int (0 : Int32)) ∧ Arv Z h b kb (.object "java/lang/Object") (10 : Int32) [.null, .null, .null, .null, .null, .null, .null, .null, .null, .null] .null ∧ Ovr Z kb "java/lang/Object"
theorem own_d16_0 : decode jdk_38_method_7_code 0 = .ok (.aload_n 0, 1) := by decide +kernel
theorem own_d16_1 : decode jdk_38_method_7_code 1 = .ok (.aload_n 0, 1) := by decide +kernel
theorem own_d16_2 : decode jdk_38_method_7_code 2 = .ok (.getfield 48, 3) := by decide +kernel
theorem own_d16_5 : decode jdk_38_method_7_code 5 = .ok (.iconst 1, 1) := by decide +kernel
theorem own_d16_6 : decode jdk_38_method_7_code 6 = .ok (.iadd, 1) := by decide +kernel
theorem own_d16_7 : decode jdk_38_method_7_code 7 = .ok (.invokevirtual 69, 3) := by decide +kernel
theorem own_pd2 : parseMethodDescriptor "(I)[Ljava/lang/Object;" = some ⟨[.int], some (.array (.object "java/lang/Object"))⟩ := by decide +kernel
theorem own_d16_10 : decode jdk_38_method_7_code 10 = .ok (.areturn, 1) := by decide +kernel
set_option maxRecDepth 65536 in
set_option maxHeartbeats 40000000 in
theorem rm_grow (l : Launch) (Z : State) (a0 : Array Value) (hw : ∀ d ∈ tables_1, d.before a0 Z = true) (ws : List Jvm.Cond) (o : Addr) (aE : Addr) (kE : ClassId) (mc : Int32) (h0 : Heap) (n0 : Nat) (Z0 : n0 ≤ h0.size) (E1 : Exa Z h0 o "java/util/ArrayList") (F1 : Fld Z h0 o "java/util/AbstractList" "modCount" "I" (.int mc)) (F2 : Fld Z h0 o "java/util/ArrayList" "elementData" "[Ljava/lang/Object;" (.ref aE)) (F3 : Fld Z h0 o "java/util/ArrayList" "size" "I" (.int (0 : Int32))) (A1 : Arv Z h0 aE kE (.object "java/lang/Object") (0 : Int32) [] .null) (S1 : Sta Z h0 "java/util/ArrayList" "DEFAULTCAPACITY_EMPTY_ELEMENTDATA" "[Ljava/lang/Object;" (.ref aE)) (g_o : n0 ≤ o) (ne_oE : o ≠ aE) :
    MetFree l (⟨"java/util/ArrayList", "grow", "()[Ljava/lang/Object;"⟩ : MethodName) (head1 (Jvm.Cond.code (⟨"java/util/ArrayList", "grow", "()[Ljava/lang/Object;"⟩ : MethodName) jdk_38_method_7_code 1 (some (.array (.object "java/lang/Object"))) :: ws) ({ frames := 2, cells := 1, slots := 10, locals := 40 } : Room)) (fun aa U => aa = #[(.ref o)] ∧ Z.Warmed39 U.vm ∧ U.heap = h0) (fun _ _ _ _ _ => True) (fun _ U ou U' => ∃ v L, ou = .returned v ∧ Q_rm_grow Z o aE kE mc h0 n0 v U'.heap L ∧ FrameEnd U ou U' L ({ frames := 2, cells := 1, slots := 10, locals := 40 } : Room).cells ({ frames := 2, cells := 1, slots := 10, locals := 40 } : Room).slots) := by
  refine MetFree.of_bodySF (plainFor_of_name own_pn4) hisR ?_
  intro p e s m args below meth c s₁ Bd hml0 hP hK
  obtain ⟨rfl, hZ, hh⟩ := hP
  have hx := Bd.exec
  have hby := Bd.bytes
  have hml : c.maxLocals = 1 := hml0
  have hown : s.vm.findClass "java/util/ArrayList" = some m.cls := findClass_of_methodNamed Bd.named
  have hnm := (name_of_methodNamed Bd.named Bd.method).1
  have X0 : Stand p l e ({ frames := 2, cells := 1, slots := 10, locals := 40 } : Room) s m #[(.ref o)] below meth c s₁ [] 0 0 := Stand.of_body Bd
  have e0 : s₁.heap = h0 := by rw [← hh, Bd.state]; rfl
  have N0 := Fr.nil n0
  have K0 := Keep.refl h0 [o]
  show own_Go p e below (fun o u L => FrameEnd s o u L ({ frames := 2, cells := 1, slots := 10, locals := 40 } : Room).cells ({ frames := 2, cells := 1, slots := 10, locals := 40 } : Room).slots) (Q_rm_grow Z o aE kE mc h0 n0) (s₁.setTop (entryFrame m #[(.ref o)] 1))
  rw [own_ef_rm_grow m o]
  show own_Go _ _ _ _ _ (State.setTop _ (mkF _ 0 #[.val (.ref o)] []))
  refine own_aloadN X0 hx 1 rfl (hb hby own_d16_0) rfl rfl ?_
  refine own_aloadN X0 hx 2 rfl (hb hby own_d16_1) rfl rfl ?_
  refine own_getF X0 hx hZ (host := "") hown (Or.inl (own_hw hw 100 rfl)) Via.refl e0 F3 5 rfl (hb hby own_d16_2) fun T206 X206 e206 => ?_
  refine own_iconst X206 hx 6 rfl (hb hby own_d16_5) (1 : Int32) rfl ?_
  refine own_iadd X206 hx 7 rfl (hb hby own_d16_6) (1 : Int32) rfl ?_
  refine own_private X206 hx hZ (y := (⟨"java/util/ArrayList", "grow", "(I)[Ljava/lang/Object;"⟩ : MethodName)) (z := (⟨"java/util/ArrayList", "grow", "(I)[Ljava/lang/Object;"⟩ : MethodName)) hown (own_hw hw 112 rfl) (own_hw hw 113 rfl) rfl (own_hw hw 115 rfl) (own_hw hw 114 rfl) (a := o) E1 (by decide) (rm_grow1 l Z a0 hw [] o aE kE mc h0 n0 Z0 E1 F1 F2 F3 A1 S1 g_o ne_oE) (own_hw hw 116 rfl) (own_hw hw 36 rfl) (by decide) e206 (by rw [hml]; rfl) [(.int (1 : Int32))] 0 (by decide) (Nat.le_of_eq rfl) (by decide) (by decide) (lenOf own_pd2 rfl) rfl rfl 10 rfl (hb hby own_d16_7) fun v207 T207 Lc207 X207 hQ207 => ?_
  obtain ⟨b_207, kb_207, rfl, Nq207, Kq207, sd0_207, f208, f209, f210, f211, f212, f213⟩ := hQ207
  have N214 := Fr.app N0 Nq207
  have ne215 : o ≠ b_207 := Nat.ne_of_lt (Nat.lt_of_lt_of_le E1.lt sd0_207)
  have ne216 : aE ≠ b_207 := Nat.ne_of_lt (Nat.lt_of_lt_of_le A1.lt sd0_207)
  have ge217 : n0 ≤ b_207 := Nat.le_trans Z0 sd0_207
  have sz218 : h0.size ≤ b_207 := Nat.le_trans K0.1 sd0_207
  have f219 := E1.keep Kq207
  have f223 := A1.keep Kq207 (ninS (Ne.symm ne_oE) nin0)
  have f224 := own_staKeep S1 Kq207 (nsS E1.nostat ns0)
  have z225 := Nat.le_trans Z0 Kq207.1
  have K226 := K0.trans Kq207 (allS (Or.inl (List.mem_of_getElem? (i := 0) rfl)) all0)
  show own_Go _ _ _ _ _ (State.setTop _ (mkF _ 10 _ [(.ref b_207)]))
  refine own_ret X207 (some (.ref b_207)) (fun h => by rw [Bd.returns] at h; cases h) Bd.notSynchronized (by decide) (by decide) ?_ (fun fs hr => own_retR X207 hx Bd.returns rfl rfl (hb hby own_d16_10) hr)
  show Q_rm_grow Z o aE kE mc h0 n0 _ T207.heap _
  exact ⟨b_207, kb_207, rfl, N214, K226, sz218, f208, f209, f210, f211, f212, f213⟩
theorem own_ef_rm_addp0 (m : MethodId) (o : Addr) (f : Addr) (aE : Addr) : entryFrame m #[(.ref o), (.ref f), (.ref aE), (.int (0 : Int32))] 4 = mkF m 0 #[.val (.ref o), .val (.ref f), .val (.ref aE), .val (.int (0 : Int32))] [] := by first | (simp [entryFrame, mkF, argsToLocals, Value.category]; done) | rfl
def Q_rm_addp0 (Z : State) (o : Addr) (aE : Addr) (kE : ClassId) (mc : Int32) (f : Addr) (h0 : Heap) (n0 : Nat) (v : Option Value) (h : Heap) (L : List Loc) : Prop := ∃ (b : Addr) (kb : ClassId), v = none ∧ Fr n0 L ∧ Keep h0 h [o] ∧ h0.size ≤ b ∧ Exa Z h o "java/util/ArrayList" ∧ Fld Z h o "java/util/AbstractList" "modCount" "I" (.int mc) ∧ Fld Z h o "java/util/ArrayList" "elementData" "[Ljava/lang/Object;" (.ref b) ∧ Fld Z h o "java/util/ArrayList" "size" "I" (.int (1 : Int32)) ∧ Arv Z h b kb (.object "java/lang/Object") (10 : Int32) [(.ref f), .null, .null, .null, .null, .null, .null, .null, .null, .null] .null ∧ Ovr Z kb "java/lang/Object"
theorem own_d15_0 : decode jdk_38_method_24_code 0 = .ok (.iload_n 3, 1) := by decide +kernel
theorem own_d15_1 : decode jdk_38_method_24_code 1 = .ok (.aload_n 2, 1) := by decide +kernel
theorem own_d15_2 : decode jdk_38_method_24_code 2 = .ok (.arraylength, 1) := by decide +kernel
theorem own_d15_3 : decode jdk_38_method_24_code 3 = .ok (.if_icmp .ne 8, 3) := by decide +kernel
theorem own_d15_6 : decode jdk_38_method_24_code 6 = .ok (.aload_n 0, 1) := by decide +kernel
theorem own_d15_7 : decode jdk_38_method_24_code 7 = .ok (.invokevirtual 129, 3) := by decide +kernel
theorem own_pd3 : parseMethodDescriptor "()[Ljava/lang/Object;" = some ⟨[], some (.array (.object "java/lang/Object"))⟩ := by decide +kernel
theorem own_d15_10 : decode jdk_38_method_24_code 10 = .ok (.astore_n 2, 1) := by decide +kernel
theorem own_d15_11 : decode jdk_38_method_24_code 11 = .ok (.aload_n 2, 1) := by decide +kernel
theorem own_d15_12 : decode jdk_38_method_24_code 12 = .ok (.iload_n 3, 1) := by decide +kernel
theorem own_d15_13 : decode jdk_38_method_24_code 13 = .ok (.aload_n 1, 1) := by decide +kernel
theorem own_d15_14 : decode jdk_38_method_24_code 14 = .ok (.aastore, 1) := by decide +kernel
theorem own_d15_15 : decode jdk_38_method_24_code 15 = .ok (.aload_n 0, 1) := by decide +kernel
theorem own_d15_16 : decode jdk_38_method_24_code 16 = .ok (.iload_n 3, 1) := by decide +kernel
theorem own_d15_17 : decode jdk_38_method_24_code 17 = .ok (.iconst 1, 1) := by decide +kernel
theorem own_d15_18 : decode jdk_38_method_24_code 18 = .ok (.iadd, 1) := by decide +kernel
theorem own_d15_19 : decode jdk_38_method_24_code 19 = .ok (.putfield 48, 3) := by decide +kernel
theorem own_d15_22 : decode jdk_38_method_24_code 22 = .ok (.return_, 1) := by decide +kernel
set_option maxRecDepth 65536 in
set_option maxHeartbeats 40000000 in
theorem rm_addp0 (l : Launch) (Z : State) (a0 : Array Value) (hw : ∀ d ∈ tables_1, d.before a0 Z = true) (ws : List Jvm.Cond) (o : Addr) (aE : Addr) (kE : ClassId) (mc : Int32) (f : Addr) (h0 : Heap) (n0 : Nat) (Z0 : n0 ≤ h0.size) (E1 : Exa Z h0 o "java/util/ArrayList") (F1 : Fld Z h0 o "java/util/AbstractList" "modCount" "I" (.int mc)) (F2 : Fld Z h0 o "java/util/ArrayList" "elementData" "[Ljava/lang/Object;" (.ref aE)) (F3 : Fld Z h0 o "java/util/ArrayList" "size" "I" (.int (0 : Int32))) (A1 : Arv Z h0 aE kE (.object "java/lang/Object") (0 : Int32) [] .null) (S1 : Sta Z h0 "java/util/ArrayList" "DEFAULTCAPACITY_EMPTY_ELEMENTDATA" "[Ljava/lang/Object;" (.ref aE)) (g_o : n0 ≤ o) (ne_oE : o ≠ aE) (E2 : Exa Z h0 f "com/example/measured_reasoner/measuredreasoner/Summary$Field") :
    MetFree l (⟨"java/util/ArrayList", "add", "(Ljava/lang/Object;[Ljava/lang/Object;I)V"⟩ : MethodName) (head1 (Jvm.Cond.code (⟨"java/util/ArrayList", "add", "(Ljava/lang/Object;[Ljava/lang/Object;I)V"⟩ : MethodName) jdk_38_method_24_code 4 none :: ws) ({ frames := 3, cells := 1, slots := 10, locals := 55 } : Room)) (fun aa U => aa = #[(.ref o), (.ref f), (.ref aE), (.int (0 : Int32))] ∧ Z.Warmed39 U.vm ∧ U.heap = h0) (fun _ _ _ _ _ => True) (fun _ U ou U' => ∃ v L, ou = .returned v ∧ Q_rm_addp0 Z o aE kE mc f h0 n0 v U'.heap L ∧ FrameEnd U ou U' L ({ frames := 3, cells := 1, slots := 10, locals := 55 } : Room).cells ({ frames := 3, cells := 1, slots := 10, locals := 55 } : Room).slots) := by
  refine MetFree.of_bodySF (plainFor_of_name own_pn4) hisR ?_
  intro p e s m args below meth c s₁ Bd hml0 hP hK
  obtain ⟨rfl, hZ, hh⟩ := hP
  have hx := Bd.exec
  have hby := Bd.bytes
  have hml : c.maxLocals = 4 := hml0
  have hown : s.vm.findClass "java/util/ArrayList" = some m.cls := findClass_of_methodNamed Bd.named
  have hnm := (name_of_methodNamed Bd.named Bd.method).1
  have X0 : Stand p l e ({ frames := 3, cells := 1, slots := 10, locals := 55 } : Room) s m #[(.ref o), (.ref f), (.ref aE), (.int (0 : Int32))] below meth c s₁ [] 0 0 := Stand.of_body Bd
  have e0 : s₁.heap = h0 := by rw [← hh, Bd.state]; rfl
  have N0 := Fr.nil n0
  have K0 := Keep.refl h0 [o]
  show own_Go p e below (fun o u L => FrameEnd s o u L ({ frames := 3, cells := 1, slots := 10, locals := 55 } : Room).cells ({ frames := 3, cells := 1, slots := 10, locals := 55 } : Room).slots) (Q_rm_addp0 Z o aE kE mc f h0 n0) (s₁.setTop (entryFrame m #[(.ref o), (.ref f), (.ref aE), (.int (0 : Int32))] 4))
  rw [own_ef_rm_addp0 m o f aE]
  show own_Go _ _ _ _ _ (State.setTop _ (mkF _ 0 #[.val (.ref o), .val (.ref f), .val (.ref aE), .val (.int (0 : Int32))] []))
  refine own_iloadN X0 hx 1 rfl (hb hby own_d15_0) rfl ?_
  refine own_aloadN X0 hx 2 rfl (hb hby own_d15_1) rfl rfl ?_
  refine own_len X0 hx hZ e0 A1 3 rfl (hb hby own_d15_2) ?_
  refine own_icmpNo X0 hx 6 rfl (hb hby own_d15_3) (by decide) ?_
  refine own_aloadN X0 hx 7 rfl (hb hby own_d15_6) rfl rfl ?_
  refine own_private X0 hx hZ (y := (⟨"java/util/ArrayList", "grow", "()[Ljava/lang/Object;"⟩ : MethodName)) (z := (⟨"java/util/ArrayList", "grow", "()[Ljava/lang/Object;"⟩ : MethodName)) hown (own_hw hw 107 rfl) (own_hw hw 108 rfl) rfl (own_hw hw 110 rfl) (own_hw hw 109 rfl) (a := o) E1 (by decide) (rm_grow l Z a0 hw [] o aE kE mc h0 n0 Z0 E1 F1 F2 F3 A1 S1 g_o ne_oE) (own_hw hw 111 rfl) (own_hw hw 36 rfl) (by decide) e0 (by rw [hml]; rfl) [] 0 (by decide) (Nat.le_of_eq rfl) (by decide) (by decide) (lenOf own_pd3 rfl) rfl rfl 10 rfl (hb hby own_d15_7) fun v227 T227 Lc227 X227 hQ227 => ?_
  obtain ⟨b_227, kb_227, rfl, Nq227, Kq227, sd0_227, f228, f229, f230, f231, f232, f233⟩ := hQ227
  have N234 := Fr.app N0 Nq227
  have ne235 : o ≠ b_227 := Nat.ne_of_lt (Nat.lt_of_lt_of_le E1.lt sd0_227)
  have ne236 : aE ≠ b_227 := Nat.ne_of_lt (Nat.lt_of_lt_of_le A1.lt sd0_227)
  have ne237 : f ≠ b_227 := Nat.ne_of_lt (Nat.lt_of_lt_of_le E2.lt sd0_227)
  have ge238 : n0 ≤ b_227 := Nat.le_trans Z0 sd0_227
  have sz239 : h0.size ≤ b_227 := Nat.le_trans K0.1 sd0_227
  have f240 := E1.keep Kq227
  have f244 := A1.keep Kq227 (ninS (Ne.symm ne_oE) nin0)
  have f245 := own_staKeep S1 Kq227 (nsS E1.nostat ns0)
  have f246 := E2.keep Kq227
  have z247 := Nat.le_trans Z0 Kq227.1
  have K248 := K0.trans Kq227 (allS (Or.inl (List.mem_of_getElem? (i := 0) rfl)) all0)
  show own_Go _ _ _ _ _ (State.setTop _ (mkF _ 10 _ [(.ref b_227)]))
  refine own_astoreN X227 hx 11 rfl (hb hby own_d15_10) rfl #[.val (.ref o), .val (.ref f), .val (.ref b_227), .val (.int (0 : Int32))] rfl ?_
  refine own_aloadN X227 hx 12 rfl (hb hby own_d15_11) rfl rfl ?_
  refine own_iloadN X227 hx 13 rfl (hb hby own_d15_12) rfl ?_
  refine own_aloadN X227 hx 14 rfl (hb hby own_d15_13) rfl rfl ?_
  refine own_stR X227 hx hZ rfl f232 rfl f233 (Ins.of_exa f246 (own_hw hw 123 rfl)) rfl ⟨by decide, by decide⟩ 0 rfl (Nat.le_of_ble_eq_true rfl) [(.ref f), .null, .null, .null, .null, .null, .null, .null, .null, .null] rfl 15 rfl (hb hby own_d15_14) fun T249 h249 X249 e249 W249 f250 => ?_
  have f251 := f228.wr W249
  have f252 := f244.other W249 ne236
  have f253 := f245.wr W249
  have f254 := f246.wr W249
  have f255 := f229.other W249 (Or.inl ne235)
  have f256 := f230.other W249 (Or.inl ne235)
  have f257 := f231.other W249 (Or.inl ne235)
  have z258 := Nat.le_trans z247 (Keep.of_wr W249).1
  have K259 := K248.wr W249 (Or.inr sz239)
  have N260 := Fr.snoc X249 N234 ge238
  refine own_aloadN X249 hx 16 rfl (hb hby own_d15_15) rfl rfl ?_
  refine own_iloadN X249 hx 17 rfl (hb hby own_d15_16) rfl ?_
  refine own_iconst X249 hx 18 rfl (hb hby own_d15_17) (1 : Int32) rfl ?_
  refine own_iadd X249 hx 19 rfl (hb hby own_d15_18) (1 : Int32) rfl ?_
  refine own_putF X249 hx hZ (host := "") hown (Or.inl (own_hw hw 100 rfl)) Via.refl e249 f257 f251 (Or.inl (own_hw hw 101 rfl)) (own_hw hw 35 rfl) (ty := .int) (by decide) rfl rfl 22 rfl (hb hby own_d15_19) fun T261 h261 X261 e261 W261 => ?_
  have f262 := f251.wr W261
  have f263 := f252.other W261 (Ne.symm ne_oE)
  have f264 := f253.wr W261
  have f265 := f254.wr W261
  have f266 := f255.other W261 (Or.inr (slot_ne (Or.inl (own_hw hw 54 rfl)) (Or.inl (own_hw hw 101 rfl)) (by decide) (t := .int) (t' := .int) (by decide) (by decide)))
  have f267 := f256.other W261 (Or.inr (slot_ne (Or.inl (own_hw hw 57 rfl)) (Or.inl (own_hw hw 101 rfl)) (by decide) (t := (.array (.object "java/lang/Object"))) (t' := .int) (by decide) (by decide)))
  have f268 := f250.other W261 (Ne.symm ne235)
  have z269 := Nat.le_trans z258 (Keep.of_wr W261).1
  have K270 := K259.wr W261 (Or.inl (List.mem_of_getElem? (i := 0) rfl))
  have f271 := f257.same W261
  have N272 := Fr.snoc X261 N260 g_o
  refine own_ret X261 none (fun _ => rfl) Bd.notSynchronized (by decide) (by decide) ?_ (fun fs hr => X261.returnOut hx Bd.returns (hb hby own_d15_22) hr)
  show Q_rm_addp0 Z o aE kE mc f h0 n0 _ T261.heap _
  rw [e261]
  exact ⟨b_227, kb_227, rfl, N272, K270, sz239, f262, f266, f267, f271, f268, f233⟩
theorem own_ef_rm_add0 (m : MethodId) (o : Addr) (f : Addr) : entryFrame m #[(.ref o), (.ref f)] 2 = mkF m 0 #[.val (.ref o), .val (.ref f)] [] := by first | (simp [entryFrame, mkF, argsToLocals, Value.category]; done) | rfl
def Q_rm_add0 (Z : State) (o : Addr) (aE : Addr) (kE : ClassId) (mc : Int32) (f : Addr) (h0 : Heap) (n0 : Nat) (v : Option Value) (h : Heap) (L : List Loc) : Prop := ∃ (b : Addr) (kb : ClassId), v = some (.int (1 : Int32)) ∧ Fr n0 L ∧ Keep h0 h [o] ∧ h0.size ≤ b ∧ Exa Z h o "java/util/ArrayList" ∧ Fld Z h o "java/util/AbstractList" "modCount" "I" (.int (mc + (1 : Int32))) ∧ Fld Z h o "java/util/ArrayList" "elementData" "[Ljava/lang/Object;" (.ref b) ∧ Fld Z h o "java/util/ArrayList" "size" "I" (.int (1 : Int32)) ∧ Arv Z h b kb (.object "java/lang/Object") (10 : Int32) [(.ref f), .null, .null, .null, .null, .null, .null, .null, .null, .null] .null ∧ Ovr Z kb "java/lang/Object"
theorem own_d14_0 : decode jdk_38_method_25_code 0 = .ok (.aload_n 0, 1) := by decide +kernel
theorem own_d14_1 : decode jdk_38_method_25_code 1 = .ok (.dup, 1) := by decide +kernel
theorem own_d14_2 : decode jdk_38_method_25_code 2 = .ok (.getfield 63, 3) := by decide +kernel
theorem own_d14_5 : decode jdk_38_method_25_code 5 = .ok (.iconst 1, 1) := by decide +kernel
theorem own_d14_6 : decode jdk_38_method_25_code 6 = .ok (.iadd, 1) := by decide +kernel
theorem own_d14_7 : decode jdk_38_method_25_code 7 = .ok (.putfield 63, 3) := by decide +kernel
theorem own_d14_10 : decode jdk_38_method_25_code 10 = .ok (.aload_n 0, 1) := by decide +kernel
theorem own_d14_11 : decode jdk_38_method_25_code 11 = .ok (.aload_n 1, 1) := by decide +kernel
theorem own_d14_12 : decode jdk_38_method_25_code 12 = .ok (.aload_n 0, 1) := by decide +kernel
theorem own_d14_13 : decode jdk_38_method_25_code 13 = .ok (.getfield 9, 3) := by decide +kernel
theorem own_d14_16 : decode jdk_38_method_25_code 16 = .ok (.aload_n 0, 1) := by decide +kernel
theorem own_d14_17 : decode jdk_38_method_25_code 17 = .ok (.getfield 48, 3) := by decide +kernel
theorem own_d14_20 : decode jdk_38_method_25_code 20 = .ok (.invokevirtual 131, 3) := by decide +kernel
theorem own_pd4 : parseMethodDescriptor "(Ljava/lang/Object;[Ljava/lang/Object;I)V" = some ⟨[(.object "java/lang/Object"), (.array (.object "java/lang/Object")), .int], none⟩ := by decide +kernel
theorem own_d14_23 : decode jdk_38_method_25_code 23 = .ok (.iconst 1, 1) := by decide +kernel
theorem own_d14_24 : decode jdk_38_method_25_code 24 = .ok (.ireturn, 1) := by decide +kernel
set_option maxRecDepth 65536 in
set_option maxHeartbeats 40000000 in
theorem rm_add0 (l : Launch) (Z : State) (a0 : Array Value) (hw : ∀ d ∈ tables_1, d.before a0 Z = true) (ws : List Jvm.Cond) (o : Addr) (aE : Addr) (kE : ClassId) (mc : Int32) (f : Addr) (h0 : Heap) (n0 : Nat) (Z0 : n0 ≤ h0.size) (E1 : Exa Z h0 o "java/util/ArrayList") (F1 : Fld Z h0 o "java/util/AbstractList" "modCount" "I" (.int mc)) (F2 : Fld Z h0 o "java/util/ArrayList" "elementData" "[Ljava/lang/Object;" (.ref aE)) (F3 : Fld Z h0 o "java/util/ArrayList" "size" "I" (.int (0 : Int32))) (A1 : Arv Z h0 aE kE (.object "java/lang/Object") (0 : Int32) [] .null) (S1 : Sta Z h0 "java/util/ArrayList" "DEFAULTCAPACITY_EMPTY_ELEMENTDATA" "[Ljava/lang/Object;" (.ref aE)) (g_o : n0 ≤ o) (ne_oE : o ≠ aE) (E2 : Exa Z h0 f "com/example/measured_reasoner/measuredreasoner/Summary$Field") :
    MetFree l (⟨"java/util/ArrayList", "add", "(Ljava/lang/Object;)Z"⟩ : MethodName) (head1 (Jvm.Cond.code (⟨"java/util/ArrayList", "add", "(Ljava/lang/Object;)Z"⟩ : MethodName) jdk_38_method_25_code 2 (some .boolean) :: ws) ({ frames := 4, cells := 1, slots := 10, locals := 75 } : Room)) (fun aa U => aa = #[(.ref o), (.ref f)] ∧ Z.Warmed39 U.vm ∧ U.heap = h0) (fun _ _ _ _ _ => True) (fun _ U ou U' => ∃ v L, ou = .returned v ∧ Q_rm_add0 Z o aE kE mc f h0 n0 v U'.heap L ∧ FrameEnd U ou U' L ({ frames := 4, cells := 1, slots := 10, locals := 75 } : Room).cells ({ frames := 4, cells := 1, slots := 10, locals := 75 } : Room).slots) := by
  refine MetFree.of_bodySF (plainFor_of_name own_pn4) hisR ?_
  intro p e s m args below meth c s₁ Bd hml0 hP hK
  obtain ⟨rfl, hZ, hh⟩ := hP
  have hx := Bd.exec
  have hby := Bd.bytes
  have hml : c.maxLocals = 2 := hml0
  have hown : s.vm.findClass "java/util/ArrayList" = some m.cls := findClass_of_methodNamed Bd.named
  have hnm := (name_of_methodNamed Bd.named Bd.method).1
  have X0 : Stand p l e ({ frames := 4, cells := 1, slots := 10, locals := 75 } : Room) s m #[(.ref o), (.ref f)] below meth c s₁ [] 0 0 := Stand.of_body Bd
  have e0 : s₁.heap = h0 := by rw [← hh, Bd.state]; rfl
  have N0 := Fr.nil n0
  have K0 := Keep.refl h0 [o]
  show own_Go p e below (fun o u L => FrameEnd s o u L ({ frames := 4, cells := 1, slots := 10, locals := 75 } : Room).cells ({ frames := 4, cells := 1, slots := 10, locals := 75 } : Room).slots) (Q_rm_add0 Z o aE kE mc f h0 n0) (s₁.setTop (entryFrame m #[(.ref o), (.ref f)] 2))
  rw [own_ef_rm_add0 m o f]
  show own_Go _ _ _ _ _ (State.setTop _ (mkF _ 0 #[.val (.ref o), .val (.ref f)] []))
  refine own_aloadN X0 hx 1 rfl (hb hby own_d14_0) rfl rfl ?_
  refine own_dup X0 hx 2 rfl (hb hby own_d14_1) rfl ?_
  refine own_getF X0 hx hZ (host := "") hown (Or.inl (own_hw hw 98 rfl)) (Via.of (own_hw hw 99 rfl)) e0 F1 5 rfl (hb hby own_d14_2) fun T273 X273 e273 => ?_
  refine own_iconst X273 hx 6 rfl (hb hby own_d14_5) (1 : Int32) rfl ?_
  refine own_iadd X273 hx 7 rfl (hb hby own_d14_6) _ rfl ?_
  refine own_putF X273 hx hZ (host := "") hown (Or.inl (own_hw hw 98 rfl)) (Via.of (own_hw hw 99 rfl)) e273 F1 E1 (Or.inl (own_hw hw 54 rfl)) (own_hw hw 35 rfl) (ty := .int) (by decide) rfl rfl 10 rfl (hb hby own_d14_7) fun T274 h274 X274 e274 W274 => ?_
  have f275 := E1.wr W274
  have f276 := F2.other W274 (Or.inr (slot_ne (Or.inl (own_hw hw 57 rfl)) (Or.inl (own_hw hw 54 rfl)) (by decide) (t := (.array (.object "java/lang/Object"))) (t' := .int) (by decide) (by decide)))
  have f277 := F3.other W274 (Or.inr (slot_ne (Or.inl (own_hw hw 101 rfl)) (Or.inl (own_hw hw 54 rfl)) (by decide) (t := .int) (t' := .int) (by decide) (by decide)))
  have f278 := A1.other W274 (Ne.symm ne_oE)
  have f279 := S1.wr W274
  have f280 := E2.wr W274
  have z281 := Nat.le_trans Z0 (Keep.of_wr W274).1
  have K282 := K0.wr W274 (Or.inl (List.mem_of_getElem? (i := 0) rfl))
  have f283 := F1.same W274
  have N284 := Fr.snoc X274 N0 g_o
  refine own_aloadN X274 hx 11 rfl (hb hby own_d14_10) rfl rfl ?_
  refine own_aloadN X274 hx 12 rfl (hb hby own_d14_11) rfl rfl ?_
  refine own_aloadN X274 hx 13 rfl (hb hby own_d14_12) rfl rfl ?_
  refine own_getF X274 hx hZ (host := "") hown (Or.inl (own_hw hw 56 rfl)) Via.refl e274 f276 16 rfl (hb hby own_d14_13) fun T285 X285 e285 => ?_
  refine own_aloadN X285 hx 17 rfl (hb hby own_d14_16) rfl rfl ?_
  refine own_getF X285 hx hZ (host := "") hown (Or.inl (own_hw hw 100 rfl)) Via.refl e285 f277 20 rfl (hb hby own_d14_17) fun T286 X286 e286 => ?_
  refine own_private X286 hx hZ (y := (⟨"java/util/ArrayList", "add", "(Ljava/lang/Object;[Ljava/lang/Object;I)V"⟩ : MethodName)) (z := (⟨"java/util/ArrayList", "add", "(Ljava/lang/Object;[Ljava/lang/Object;I)V"⟩ : MethodName)) hown (own_hw hw 102 rfl) (own_hw hw 103 rfl) rfl (own_hw hw 105 rfl) (own_hw hw 104 rfl) (a := o) f275 (by decide) (rm_addp0 l Z a0 hw [] o aE kE (mc + (1 : Int32)) f h274 n0 z281 f275 f283 f276 f277 f278 f279 g_o ne_oE f280) (own_hw hw 106 rfl) (own_hw hw 36 rfl) (by decide) e286 (by rw [hml]; rfl) [(.ref f), (.ref aE), (.int (0 : Int32))] 0 (by decide) (Nat.le_of_eq rfl) (by decide) (by decide) (lenOf own_pd4 rfl) rfl rfl 23 rfl (hb hby own_d14_20) fun v287 T287 Lc287 X287 hQ287 => ?_
  obtain ⟨b_287, kb_287, rfl, Nq287, Kq287, sd0_287, f288, f289, f290, f291, f292, f293⟩ := hQ287
  have N294 := Fr.app N284 Nq287
  have ne295 : o ≠ b_287 := Nat.ne_of_lt (Nat.lt_of_lt_of_le f275.lt sd0_287)
  have ne296 : aE ≠ b_287 := Nat.ne_of_lt (Nat.lt_of_lt_of_le f278.lt sd0_287)
  have ne297 : f ≠ b_287 := Nat.ne_of_lt (Nat.lt_of_lt_of_le f280.lt sd0_287)
  have ge298 : n0 ≤ b_287 := Nat.le_trans z281 sd0_287
  have sz299 : h0.size ≤ b_287 := Nat.le_trans K282.1 sd0_287
  have f300 := f275.keep Kq287
  have f303 := f278.keep Kq287 (ninS (Ne.symm ne_oE) nin0)
  have f304 := own_staKeep f279 Kq287 (nsS f275.nostat ns0)
  have f305 := f280.keep Kq287
  have z307 := Nat.le_trans z281 Kq287.1
  have K308 := K282.trans Kq287 (allS (Or.inl (List.mem_of_getElem? (i := 0) rfl)) all0)
  show own_Go _ _ _ _ _ (State.setTop _ (mkF _ 23 _ []))
  refine own_iconst X287 hx 24 rfl (hb hby own_d14_23) (1 : Int32) rfl ?_
  refine own_ret X287 (some (.int (1 : Int32))) (fun h => by rw [Bd.returns] at h; cases h) Bd.notSynchronized (by decide) (by decide) ?_ (fun fs hr => retN X287 hx (t := .boolean) Bd.returns (by simp) (hb hby own_d14_24) hr)
  show Q_rm_add0 Z o aE kE mc f h0 n0 _ T287.heap _
  exact ⟨b_287, kb_287, rfl, N294, K308, sz299, f288, f289, f290, f291, f292, f293⟩
theorem own_ef_rm_addp1 (m : MethodId) (o : Addr) (f : Addr) (a : Addr) : entryFrame m #[(.ref o), (.ref f), (.ref a), (.int (1 : Int32))] 4 = mkF m 0 #[.val (.ref o), .val (.ref f), .val (.ref a), .val (.int (1 : Int32))] [] := by first | (simp [entryFrame, mkF, argsToLocals, Value.category]; done) | rfl
def Q_rm_addp1 (Z : State) (o : Addr) (a : Addr) (ka : ClassId) (mc : Int32) (f : Addr) (xe0 : Addr) (h0 : Heap) (n0 : Nat) (v : Option Value) (h : Heap) (L : List Loc) : Prop := v = none ∧ Fr n0 L ∧ Keep h0 h [o, a] ∧ Exa Z h o "java/util/ArrayList" ∧ Fld Z h o "java/util/AbstractList" "modCount" "I" (.int mc) ∧ Fld Z h o "java/util/ArrayList" "elementData" "[Ljava/lang/Object;" (.ref a) ∧ Fld Z h o "java/util/ArrayList" "size" "I" (.int (2 : Int32)) ∧ Arv Z h a ka (.object "java/lang/Object") (10 : Int32) [(.ref xe0), (.ref f), .null, .null, .null, .null, .null, .null, .null, .null] .null
set_option maxRecDepth 65536 in
set_option maxHeartbeats 40000000 in
theorem rm_addp1 (l : Launch) (Z : State) (a0 : Array Value) (hw : ∀ d ∈ tables_1, d.before a0 Z = true) (ws : List Jvm.Cond) (o : Addr) (a : Addr) (ka : ClassId) (mc : Int32) (f : Addr) (xe0 : Addr) (h0 : Heap) (n0 : Nat) (Z0 : n0 ≤ h0.size) (E1 : Exa Z h0 o "java/util/ArrayList") (F1 : Fld Z h0 o "java/util/AbstractList" "modCount" "I" (.int mc)) (F2 : Fld Z h0 o "java/util/ArrayList" "elementData" "[Ljava/lang/Object;" (.ref a)) (F3 : Fld Z h0 o "java/util/ArrayList" "size" "I" (.int (1 : Int32))) (A1 : Arv Z h0 a ka (.object "java/lang/Object") (10 : Int32) [(.ref xe0), .null, .null, .null, .null, .null, .null, .null, .null, .null] .null) (O1 : Ovr Z ka "java/lang/Object") (g_o : n0 ≤ o) (g_a : n0 ≤ a) (ne_oa : o ≠ a) (E2 : Exa Z h0 f "com/example/measured_reasoner/measuredreasoner/Summary$Field") :
    MetFree l (⟨"java/util/ArrayList", "add", "(Ljava/lang/Object;[Ljava/lang/Object;I)V"⟩ : MethodName) (head1 (Jvm.Cond.code (⟨"java/util/ArrayList", "add", "(Ljava/lang/Object;[Ljava/lang/Object;I)V"⟩ : MethodName) jdk_38_method_24_code 4 none :: ws) ({ frames := 0, cells := 0, slots := 0, locals := 0 } : Room)) (fun aa U => aa = #[(.ref o), (.ref f), (.ref a), (.int (1 : Int32))] ∧ Z.Warmed39 U.vm ∧ U.heap = h0) (fun _ _ _ _ _ => True) (fun _ U ou U' => ∃ v L, ou = .returned v ∧ Q_rm_addp1 Z o a ka mc f xe0 h0 n0 v U'.heap L ∧ FrameEnd U ou U' L ({ frames := 0, cells := 0, slots := 0, locals := 0 } : Room).cells ({ frames := 0, cells := 0, slots := 0, locals := 0 } : Room).slots) := by
  refine MetFree.of_bodySF (plainFor_of_name own_pn4) hisR ?_
  intro p e s m args below meth c s₁ Bd hml0 hP hK
  obtain ⟨rfl, hZ, hh⟩ := hP
  have hx := Bd.exec
  have hby := Bd.bytes
  have hml : c.maxLocals = 4 := hml0
  have hown : s.vm.findClass "java/util/ArrayList" = some m.cls := findClass_of_methodNamed Bd.named
  have hnm := (name_of_methodNamed Bd.named Bd.method).1
  have X0 : Stand p l e ({ frames := 0, cells := 0, slots := 0, locals := 0 } : Room) s m #[(.ref o), (.ref f), (.ref a), (.int (1 : Int32))] below meth c s₁ [] 0 0 := Stand.of_body Bd
  have e0 : s₁.heap = h0 := by rw [← hh, Bd.state]; rfl
  have N0 := Fr.nil n0
  have K0 := Keep.refl h0 [o, a]
  show own_Go p e below (fun o u L => FrameEnd s o u L ({ frames := 0, cells := 0, slots := 0, locals := 0 } : Room).cells ({ frames := 0, cells := 0, slots := 0, locals := 0 } : Room).slots) (Q_rm_addp1 Z o a ka mc f xe0 h0 n0) (s₁.setTop (entryFrame m #[(.ref o), (.ref f), (.ref a), (.int (1 : Int32))] 4))
  rw [own_ef_rm_addp1 m o f a]
  show own_Go _ _ _ _ _ (State.setTop _ (mkF _ 0 #[.val (.ref o), .val (.ref f), .val (.ref a), .val (.int (1 : Int32))] []))
  refine own_iloadN X0 hx 1 rfl (hb hby own_d15_0) rfl ?_
  refine own_aloadN X0 hx 2 rfl (hb hby own_d15_1) rfl rfl ?_
  refine own_len X0 hx hZ e0 A1 3 rfl (hb hby own_d15_2) ?_
  refine own_icmpYes X0 hx 11 (hb hby own_d15_3) (by decide) (by decide) rfl ?_
  refine own_aloadN X0 hx 12 rfl (hb hby own_d15_11) rfl rfl ?_
  refine own_iloadN X0 hx 13 rfl (hb hby own_d15_12) rfl ?_
  refine own_aloadN X0 hx 14 rfl (hb hby own_d15_13) rfl rfl ?_
  refine own_stR X0 hx hZ e0 A1 rfl O1 (Ins.of_exa E2 (own_hw hw 123 rfl)) rfl ⟨by decide, by decide⟩ 1 rfl (Nat.le_of_ble_eq_true rfl) [(.ref xe0), (.ref f), .null, .null, .null, .null, .null, .null, .null, .null] rfl 15 rfl (hb hby own_d15_14) fun T309 h309 X309 e309 W309 f310 => ?_
  have f311 := E1.wr W309
  have f312 := F1.other W309 (Or.inl ne_oa)
  have f313 := F2.other W309 (Or.inl ne_oa)
  have f314 := F3.other W309 (Or.inl ne_oa)
  have f315 := E2.wr W309
  have z316 := Nat.le_trans Z0 (Keep.of_wr W309).1
  have K317 := K0.wr W309 (Or.inl (List.mem_of_getElem? (i := 1) rfl))
  have N318 := Fr.snoc X309 N0 g_a
  refine own_aloadN X309 hx 16 rfl (hb hby own_d15_15) rfl rfl ?_
  refine own_iloadN X309 hx 17 rfl (hb hby own_d15_16) rfl ?_
  refine own_iconst X309 hx 18 rfl (hb hby own_d15_17) (1 : Int32) rfl ?_
  refine own_iadd X309 hx 19 rfl (hb hby own_d15_18) (2 : Int32) rfl ?_
  refine own_putF X309 hx hZ (host := "") hown (Or.inl (own_hw hw 100 rfl)) Via.refl e309 f314 f311 (Or.inl (own_hw hw 101 rfl)) (own_hw hw 35 rfl) (ty := .int) (by decide) rfl rfl 22 rfl (hb hby own_d15_19) fun T319 h319 X319 e319 W319 => ?_
  have f320 := f311.wr W319
  have f321 := f312.other W319 (Or.inr (slot_ne (Or.inl (own_hw hw 54 rfl)) (Or.inl (own_hw hw 101 rfl)) (by decide) (t := .int) (t' := .int) (by decide) (by decide)))
  have f322 := f313.other W319 (Or.inr (slot_ne (Or.inl (own_hw hw 57 rfl)) (Or.inl (own_hw hw 101 rfl)) (by decide) (t := (.array (.object "java/lang/Object"))) (t' := .int) (by decide) (by decide)))
  have f323 := f315.wr W319
  have f324 := f310.other W319 (Ne.symm ne_oa)
  have z325 := Nat.le_trans z316 (Keep.of_wr W319).1
  have K326 := K317.wr W319 (Or.inl (List.mem_of_getElem? (i := 0) rfl))
  have f327 := f314.same W319
  have N328 := Fr.snoc X319 N318 g_o
  refine own_ret X319 none (fun _ => rfl) Bd.notSynchronized (by decide) (by decide) ?_ (fun fs hr => X319.returnOut hx Bd.returns (hb hby own_d15_22) hr)
  show Q_rm_addp1 Z o a ka mc f xe0 h0 n0 _ T319.heap _
  rw [e319]
  exact ⟨rfl, N328, K326, f320, f321, f322, f327, f324⟩
theorem own_ef_rm_add1 (m : MethodId) (o : Addr) (f : Addr) : entryFrame m #[(.ref o), (.ref f)] 2 = mkF m 0 #[.val (.ref o), .val (.ref f)] [] := by first | (simp [entryFrame, mkF, argsToLocals, Value.category]; done) | rfl
def Q_rm_add1 (Z : State) (o : Addr) (a : Addr) (ka : ClassId) (mc : Int32) (f : Addr) (xe0 : Addr) (h0 : Heap) (n0 : Nat) (v : Option Value) (h : Heap) (L : List Loc) : Prop := v = some (.int (1 : Int32)) ∧ Fr n0 L ∧ Keep h0 h [o, a] ∧ Exa Z h o "java/util/ArrayList" ∧ Fld Z h o "java/util/AbstractList" "modCount" "I" (.int (mc + (1 : Int32))) ∧ Fld Z h o "java/util/ArrayList" "elementData" "[Ljava/lang/Object;" (.ref a) ∧ Fld Z h o "java/util/ArrayList" "size" "I" (.int (2 : Int32)) ∧ Arv Z h a ka (.object "java/lang/Object") (10 : Int32) [(.ref xe0), (.ref f), .null, .null, .null, .null, .null, .null, .null, .null] .null
set_option maxRecDepth 65536 in
set_option maxHeartbeats 40000000 in
theorem rm_add1 (l : Launch) (Z : State) (a0 : Array Value) (hw : ∀ d ∈ tables_1, d.before a0 Z = true) (ws : List Jvm.Cond) (o : Addr) (a : Addr) (ka : ClassId) (mc : Int32) (f : Addr) (xe0 : Addr) (h0 : Heap) (n0 : Nat) (Z0 : n0 ≤ h0.size) (E1 : Exa Z h0 o "java/util/ArrayList") (F1 : Fld Z h0 o "java/util/AbstractList" "modCount" "I" (.int mc)) (F2 : Fld Z h0 o "java/util/ArrayList" "elementData" "[Ljava/lang/Object;" (.ref a)) (F3 : Fld Z h0 o "java/util/ArrayList" "size" "I" (.int (1 : Int32))) (A1 : Arv Z h0 a ka (.object "java/lang/Object") (10 : Int32) [(.ref xe0), .null, .null, .null, .null, .null, .null, .null, .null, .null] .null) (O1 : Ovr Z ka "java/lang/Object") (g_o : n0 ≤ o) (g_a : n0 ≤ a) (ne_oa : o ≠ a) (E2 : Exa Z h0 f "com/example/measured_reasoner/measuredreasoner/Summary$Field") :
    MetFree l (⟨"java/util/ArrayList", "add", "(Ljava/lang/Object;)Z"⟩ : MethodName) (head1 (Jvm.Cond.code (⟨"java/util/ArrayList", "add", "(Ljava/lang/Object;)Z"⟩ : MethodName) jdk_38_method_25_code 2 (some .boolean) :: ws) ({ frames := 1, cells := 0, slots := 0, locals := 20 } : Room)) (fun aa U => aa = #[(.ref o), (.ref f)] ∧ Z.Warmed39 U.vm ∧ U.heap = h0) (fun _ _ _ _ _ => True) (fun _ U ou U' => ∃ v L, ou = .returned v ∧ Q_rm_add1 Z o a ka mc f xe0 h0 n0 v U'.heap L ∧ FrameEnd U ou U' L ({ frames := 1, cells := 0, slots := 0, locals := 20 } : Room).cells ({ frames := 1, cells := 0, slots := 0, locals := 20 } : Room).slots) := by
  refine MetFree.of_bodySF (plainFor_of_name own_pn4) hisR ?_
  intro p e s m args below meth c s₁ Bd hml0 hP hK
  obtain ⟨rfl, hZ, hh⟩ := hP
  have hx := Bd.exec
  have hby := Bd.bytes
  have hml : c.maxLocals = 2 := hml0
  have hown : s.vm.findClass "java/util/ArrayList" = some m.cls := findClass_of_methodNamed Bd.named
  have hnm := (name_of_methodNamed Bd.named Bd.method).1
  have X0 : Stand p l e ({ frames := 1, cells := 0, slots := 0, locals := 20 } : Room) s m #[(.ref o), (.ref f)] below meth c s₁ [] 0 0 := Stand.of_body Bd
  have e0 : s₁.heap = h0 := by rw [← hh, Bd.state]; rfl
  have N0 := Fr.nil n0
  have K0 := Keep.refl h0 [o, a]
  show own_Go p e below (fun o u L => FrameEnd s o u L ({ frames := 1, cells := 0, slots := 0, locals := 20 } : Room).cells ({ frames := 1, cells := 0, slots := 0, locals := 20 } : Room).slots) (Q_rm_add1 Z o a ka mc f xe0 h0 n0) (s₁.setTop (entryFrame m #[(.ref o), (.ref f)] 2))
  rw [own_ef_rm_add1 m o f]
  show own_Go _ _ _ _ _ (State.setTop _ (mkF _ 0 #[.val (.ref o), .val (.ref f)] []))
  refine own_aloadN X0 hx 1 rfl (hb hby own_d14_0) rfl rfl ?_
  refine own_dup X0 hx 2 rfl (hb hby own_d14_1) rfl ?_
  refine own_getF X0 hx hZ (host := "") hown (Or.inl (own_hw hw 98 rfl)) (Via.of (own_hw hw 99 rfl)) e0 F1 5 rfl (hb hby own_d14_2) fun T329 X329 e329 => ?_
  refine own_iconst X329 hx 6 rfl (hb hby own_d14_5) (1 : Int32) rfl ?_
  refine own_iadd X329 hx 7 rfl (hb hby own_d14_6) _ rfl ?_
  refine own_putF X329 hx hZ (host := "") hown (Or.inl (own_hw hw 98 rfl)) (Via.of (own_hw hw 99 rfl)) e329 F1 E1 (Or.inl (own_hw hw 54 rfl)) (own_hw hw 35 rfl) (ty := .int) (by decide) rfl rfl 10 rfl (hb hby own_d14_7) fun T330 h330 X330 e330 W330 => ?_
  have f331 := E1.wr W330
  have f332 := F2.other W330 (Or.inr (slot_ne (Or.inl (own_hw hw 57 rfl)) (Or.inl (own_hw hw 54 rfl)) (by decide) (t := (.array (.object "java/lang/Object"))) (t' := .int) (by decide) (by decide)))
  have f333 := F3.other W330 (Or.inr (slot_ne (Or.inl (own_hw hw 101 rfl)) (Or.inl (own_hw hw 54 rfl)) (by decide) (t := .int) (t' := .int) (by decide) (by decide)))
  have f334 := A1.other W330 (Ne.symm ne_oa)
  have f335 := E2.wr W330
  have z336 := Nat.le_trans Z0 (Keep.of_wr W330).1
  have K337 := K0.wr W330 (Or.inl (List.mem_of_getElem? (i := 0) rfl))
  have f338 := F1.same W330
  have N339 := Fr.snoc X330 N0 g_o
  refine own_aloadN X330 hx 11 rfl (hb hby own_d14_10) rfl rfl ?_
  refine own_aloadN X330 hx 12 rfl (hb hby own_d14_11) rfl rfl ?_
  refine own_aloadN X330 hx 13 rfl (hb hby own_d14_12) rfl rfl ?_
  refine own_getF X330 hx hZ (host := "") hown (Or.inl (own_hw hw 56 rfl)) Via.refl e330 f332 16 rfl (hb hby own_d14_13) fun T340 X340 e340 => ?_
  refine own_aloadN X340 hx 17 rfl (hb hby own_d14_16) rfl rfl ?_
  refine own_getF X340 hx hZ (host := "") hown (Or.inl (own_hw hw 100 rfl)) Via.refl e340 f333 20 rfl (hb hby own_d14_17) fun T341 X341 e341 => ?_
  refine own_private X341 hx hZ (y := (⟨"java/util/ArrayList", "add", "(Ljava/lang/Object;[Ljava/lang/Object;I)V"⟩ : MethodName)) (z := (⟨"java/util/ArrayList", "add", "(Ljava/lang/Object;[Ljava/lang/Object;I)V"⟩ : MethodName)) hown (own_hw hw 102 rfl) (own_hw hw 103 rfl) rfl (own_hw hw 105 rfl) (own_hw hw 104 rfl) (a := o) f331 (by decide) (rm_addp1 l Z a0 hw [] o a ka (mc + (1 : Int32)) f xe0 h330 n0 z336 f331 f338 f332 f333 f334 O1 g_o g_a ne_oa f335) (own_hw hw 106 rfl) (own_hw hw 36 rfl) (by decide) e341 (by rw [hml]; rfl) [(.ref f), (.ref a), (.int (1 : Int32))] 0 (by decide) (Nat.le_of_eq rfl) (by decide) (by decide) (lenOf own_pd4 rfl) rfl rfl 23 rfl (hb hby own_d14_20) fun v342 T342 Lc342 X342 hQ342 => ?_
  obtain ⟨rfl, Nq342, Kq342, f343, f344, f345, f346, f347⟩ := hQ342
  have N348 := Fr.app N339 Nq342
  have f349 := f331.keep Kq342
  have f353 := f335.keep Kq342
  have z355 := Nat.le_trans z336 Kq342.1
  have K356 := K337.trans Kq342 (allS (Or.inl (List.mem_of_getElem? (i := 0) rfl)) (allS (Or.inl (List.mem_of_getElem? (i := 1) rfl)) all0))
  show own_Go _ _ _ _ _ (State.setTop _ (mkF _ 23 _ []))
  refine own_iconst X342 hx 24 rfl (hb hby own_d14_23) (1 : Int32) rfl ?_
  refine own_ret X342 (some (.int (1 : Int32))) (fun h => by rw [Bd.returns] at h; cases h) Bd.notSynchronized (by decide) (by decide) ?_ (fun fs hr => retN X342 hx (t := .boolean) Bd.returns (by simp) (hb hby own_d14_24) hr)
  show Q_rm_add1 Z o a ka mc f xe0 h0 n0 _ T342.heap _
  exact ⟨rfl, N348, K356, f343, f344, f345, f346, f347⟩
theorem own_ef_rm_addp2 (m : MethodId) (o : Addr) (f : Addr) (a : Addr) : entryFrame m #[(.ref o), (.ref f), (.ref a), (.int (2 : Int32))] 4 = mkF m 0 #[.val (.ref o), .val (.ref f), .val (.ref a), .val (.int (2 : Int32))] [] := by first | (simp [entryFrame, mkF, argsToLocals, Value.category]; done) | rfl
def Q_rm_addp2 (Z : State) (o : Addr) (a : Addr) (ka : ClassId) (mc : Int32) (f : Addr) (xe0 : Addr) (xe1 : Addr) (h0 : Heap) (n0 : Nat) (v : Option Value) (h : Heap) (L : List Loc) : Prop := v = none ∧ Fr n0 L ∧ Keep h0 h [o, a] ∧ Exa Z h o "java/util/ArrayList" ∧ Fld Z h o "java/util/AbstractList" "modCount" "I" (.int mc) ∧ Fld Z h o "java/util/ArrayList" "elementData" "[Ljava/lang/Object;" (.ref a) ∧ Fld Z h o "java/util/ArrayList" "size" "I" (.int (3 : Int32)) ∧ Arv Z h a ka (.object "java/lang/Object") (10 : Int32) [(.ref xe0), (.ref xe1), (.ref f), .null, .null, .null, .null, .null, .null, .null] .null
set_option maxRecDepth 65536 in
set_option maxHeartbeats 40000000 in
theorem rm_addp2 (l : Launch) (Z : State) (a0 : Array Value) (hw : ∀ d ∈ tables_1, d.before a0 Z = true) (ws : List Jvm.Cond) (o : Addr) (a : Addr) (ka : ClassId) (mc : Int32) (f : Addr) (xe0 : Addr) (xe1 : Addr) (h0 : Heap) (n0 : Nat) (Z0 : n0 ≤ h0.size) (E1 : Exa Z h0 o "java/util/ArrayList") (F1 : Fld Z h0 o "java/util/AbstractList" "modCount" "I" (.int mc)) (F2 : Fld Z h0 o "java/util/ArrayList" "elementData" "[Ljava/lang/Object;" (.ref a)) (F3 : Fld Z h0 o "java/util/ArrayList" "size" "I" (.int (2 : Int32))) (A1 : Arv Z h0 a ka (.object "java/lang/Object") (10 : Int32) [(.ref xe0), (.ref xe1), .null, .null, .null, .null, .null, .null, .null, .null] .null) (O1 : Ovr Z ka "java/lang/Object") (g_o : n0 ≤ o) (g_a : n0 ≤ a) (ne_oa : o ≠ a) (E2 : Exa Z h0 f "com/example/measured_reasoner/measuredreasoner/Summary$Field") :
    MetFree l (⟨"java/util/ArrayList", "add", "(Ljava/lang/Object;[Ljava/lang/Object;I)V"⟩ : MethodName) (head1 (Jvm.Cond.code (⟨"java/util/ArrayList", "add", "(Ljava/lang/Object;[Ljava/lang/Object;I)V"⟩ : MethodName) jdk_38_method_24_code 4 none :: ws) ({ frames := 0, cells := 0, slots := 0, locals := 0 } : Room)) (fun aa U => aa = #[(.ref o), (.ref f), (.ref a), (.int (2 : Int32))] ∧ Z.Warmed39 U.vm ∧ U.heap = h0) (fun _ _ _ _ _ => True) (fun _ U ou U' => ∃ v L, ou = .returned v ∧ Q_rm_addp2 Z o a ka mc f xe0 xe1 h0 n0 v U'.heap L ∧ FrameEnd U ou U' L ({ frames := 0, cells := 0, slots := 0, locals := 0 } : Room).cells ({ frames := 0, cells := 0, slots := 0, locals := 0 } : Room).slots) := by
  refine MetFree.of_bodySF (plainFor_of_name own_pn4) hisR ?_
  intro p e s m args below meth c s₁ Bd hml0 hP hK
  obtain ⟨rfl, hZ, hh⟩ := hP
  have hx := Bd.exec
  have hby := Bd.bytes
  have hml : c.maxLocals = 4 := hml0
  have hown : s.vm.findClass "java/util/ArrayList" = some m.cls := findClass_of_methodNamed Bd.named
  have hnm := (name_of_methodNamed Bd.named Bd.method).1
  have X0 : Stand p l e ({ frames := 0, cells := 0, slots := 0, locals := 0 } : Room) s m #[(.ref o), (.ref f), (.ref a), (.int (2 : Int32))] below meth c s₁ [] 0 0 := Stand.of_body Bd
  have e0 : s₁.heap = h0 := by rw [← hh, Bd.state]; rfl
  have N0 := Fr.nil n0
  have K0 := Keep.refl h0 [o, a]
  show own_Go p e below (fun o u L => FrameEnd s o u L ({ frames := 0, cells := 0, slots := 0, locals := 0 } : Room).cells ({ frames := 0, cells := 0, slots := 0, locals := 0 } : Room).slots) (Q_rm_addp2 Z o a ka mc f xe0 xe1 h0 n0) (s₁.setTop (entryFrame m #[(.ref o), (.ref f), (.ref a), (.int (2 : Int32))] 4))
  rw [own_ef_rm_addp2 m o f a]
  show own_Go _ _ _ _ _ (State.setTop _ (mkF _ 0 #[.val (.ref o), .val (.ref f), .val (.ref a), .val (.int (2 : Int32))] []))
  refine own_iloadN X0 hx 1 rfl (hb hby own_d15_0) rfl ?_
  refine own_aloadN X0 hx 2 rfl (hb hby own_d15_1) rfl rfl ?_
  refine own_len X0 hx hZ e0 A1 3 rfl (hb hby own_d15_2) ?_
  refine own_icmpYes X0 hx 11 (hb hby own_d15_3) (by decide) (by decide) rfl ?_
  refine own_aloadN X0 hx 12 rfl (hb hby own_d15_11) rfl rfl ?_
  refine own_iloadN X0 hx 13 rfl (hb hby own_d15_12) rfl ?_
  refine own_aloadN X0 hx 14 rfl (hb hby own_d15_13) rfl rfl ?_
  refine own_stR X0 hx hZ e0 A1 rfl O1 (Ins.of_exa E2 (own_hw hw 123 rfl)) rfl ⟨by decide, by decide⟩ 2 rfl (Nat.le_of_ble_eq_true rfl) [(.ref xe0), (.ref xe1), (.ref f), .null, .null, .null, .null, .null, .null, .null] rfl 15 rfl (hb hby own_d15_14) fun T357 h357 X357 e357 W357 f358 => ?_
  have f359 := E1.wr W357
  have f360 := F1.other W357 (Or.inl ne_oa)
  have f361 := F2.other W357 (Or.inl ne_oa)
  have f362 := F3.other W357 (Or.inl ne_oa)
  have f363 := E2.wr W357
  have z364 := Nat.le_trans Z0 (Keep.of_wr W357).1
  have K365 := K0.wr W357 (Or.inl (List.mem_of_getElem? (i := 1) rfl))
  have N366 := Fr.snoc X357 N0 g_a
  refine own_aloadN X357 hx 16 rfl (hb hby own_d15_15) rfl rfl ?_
  refine own_iloadN X357 hx 17 rfl (hb hby own_d15_16) rfl ?_
  refine own_iconst X357 hx 18 rfl (hb hby own_d15_17) (1 : Int32) rfl ?_
  refine own_iadd X357 hx 19 rfl (hb hby own_d15_18) (3 : Int32) rfl ?_
  refine own_putF X357 hx hZ (host := "") hown (Or.inl (own_hw hw 100 rfl)) Via.refl e357 f362 f359 (Or.inl (own_hw hw 101 rfl)) (own_hw hw 35 rfl) (ty := .int) (by decide) rfl rfl 22 rfl (hb hby own_d15_19) fun T367 h367 X367 e367 W367 => ?_
  have f368 := f359.wr W367
  have f369 := f360.other W367 (Or.inr (slot_ne (Or.inl (own_hw hw 54 rfl)) (Or.inl (own_hw hw 101 rfl)) (by decide) (t := .int) (t' := .int) (by decide) (by decide)))
  have f370 := f361.other W367 (Or.inr (slot_ne (Or.inl (own_hw hw 57 rfl)) (Or.inl (own_hw hw 101 rfl)) (by decide) (t := (.array (.object "java/lang/Object"))) (t' := .int) (by decide) (by decide)))
  have f371 := f363.wr W367
  have f372 := f358.other W367 (Ne.symm ne_oa)
  have z373 := Nat.le_trans z364 (Keep.of_wr W367).1
  have K374 := K365.wr W367 (Or.inl (List.mem_of_getElem? (i := 0) rfl))
  have f375 := f362.same W367
  have N376 := Fr.snoc X367 N366 g_o
  refine own_ret X367 none (fun _ => rfl) Bd.notSynchronized (by decide) (by decide) ?_ (fun fs hr => X367.returnOut hx Bd.returns (hb hby own_d15_22) hr)
  show Q_rm_addp2 Z o a ka mc f xe0 xe1 h0 n0 _ T367.heap _
  rw [e367]
  exact ⟨rfl, N376, K374, f368, f369, f370, f375, f372⟩
theorem own_ef_rm_add2 (m : MethodId) (o : Addr) (f : Addr) : entryFrame m #[(.ref o), (.ref f)] 2 = mkF m 0 #[.val (.ref o), .val (.ref f)] [] := by first | (simp [entryFrame, mkF, argsToLocals, Value.category]; done) | rfl
def Q_rm_add2 (Z : State) (o : Addr) (a : Addr) (ka : ClassId) (mc : Int32) (f : Addr) (xe0 : Addr) (xe1 : Addr) (h0 : Heap) (n0 : Nat) (v : Option Value) (h : Heap) (L : List Loc) : Prop := v = some (.int (1 : Int32)) ∧ Fr n0 L ∧ Keep h0 h [o, a] ∧ Exa Z h o "java/util/ArrayList" ∧ Fld Z h o "java/util/AbstractList" "modCount" "I" (.int (mc + (1 : Int32))) ∧ Fld Z h o "java/util/ArrayList" "elementData" "[Ljava/lang/Object;" (.ref a) ∧ Fld Z h o "java/util/ArrayList" "size" "I" (.int (3 : Int32)) ∧ Arv Z h a ka (.object "java/lang/Object") (10 : Int32) [(.ref xe0), (.ref xe1), (.ref f), .null, .null, .null, .null, .null, .null, .null] .null
set_option maxRecDepth 65536 in
set_option maxHeartbeats 40000000 in
theorem rm_add2 (l : Launch) (Z : State) (a0 : Array Value) (hw : ∀ d ∈ tables_1, d.before a0 Z = true) (ws : List Jvm.Cond) (o : Addr) (a : Addr) (ka : ClassId) (mc : Int32) (f : Addr) (xe0 : Addr) (xe1 : Addr) (h0 : Heap) (n0 : Nat) (Z0 : n0 ≤ h0.size) (E1 : Exa Z h0 o "java/util/ArrayList") (F1 : Fld Z h0 o "java/util/AbstractList" "modCount" "I" (.int mc)) (F2 : Fld Z h0 o "java/util/ArrayList" "elementData" "[Ljava/lang/Object;" (.ref a)) (F3 : Fld Z h0 o "java/util/ArrayList" "size" "I" (.int (2 : Int32))) (A1 : Arv Z h0 a ka (.object "java/lang/Object") (10 : Int32) [(.ref xe0), (.ref xe1), .null, .null, .null, .null, .null, .null, .null, .null] .null) (O1 : Ovr Z ka "java/lang/Object") (g_o : n0 ≤ o) (g_a : n0 ≤ a) (ne_oa : o ≠ a) (E2 : Exa Z h0 f "com/example/measured_reasoner/measuredreasoner/Summary$Field") :
    MetFree l (⟨"java/util/ArrayList", "add", "(Ljava/lang/Object;)Z"⟩ : MethodName) (head1 (Jvm.Cond.code (⟨"java/util/ArrayList", "add", "(Ljava/lang/Object;)Z"⟩ : MethodName) jdk_38_method_25_code 2 (some .boolean) :: ws) ({ frames := 1, cells := 0, slots := 0, locals := 20 } : Room)) (fun aa U => aa = #[(.ref o), (.ref f)] ∧ Z.Warmed39 U.vm ∧ U.heap = h0) (fun _ _ _ _ _ => True) (fun _ U ou U' => ∃ v L, ou = .returned v ∧ Q_rm_add2 Z o a ka mc f xe0 xe1 h0 n0 v U'.heap L ∧ FrameEnd U ou U' L ({ frames := 1, cells := 0, slots := 0, locals := 20 } : Room).cells ({ frames := 1, cells := 0, slots := 0, locals := 20 } : Room).slots) := by
  refine MetFree.of_bodySF (plainFor_of_name own_pn4) hisR ?_
  intro p e s m args below meth c s₁ Bd hml0 hP hK
  obtain ⟨rfl, hZ, hh⟩ := hP
  have hx := Bd.exec
  have hby := Bd.bytes
  have hml : c.maxLocals = 2 := hml0
  have hown : s.vm.findClass "java/util/ArrayList" = some m.cls := findClass_of_methodNamed Bd.named
  have hnm := (name_of_methodNamed Bd.named Bd.method).1
  have X0 : Stand p l e ({ frames := 1, cells := 0, slots := 0, locals := 20 } : Room) s m #[(.ref o), (.ref f)] below meth c s₁ [] 0 0 := Stand.of_body Bd
  have e0 : s₁.heap = h0 := by rw [← hh, Bd.state]; rfl
  have N0 := Fr.nil n0
  have K0 := Keep.refl h0 [o, a]
  show own_Go p e below (fun o u L => FrameEnd s o u L ({ frames := 1, cells := 0, slots := 0, locals := 20 } : Room).cells ({ frames := 1, cells := 0, slots := 0, locals := 20 } : Room).slots) (Q_rm_add2 Z o a ka mc f xe0 xe1 h0 n0) (s₁.setTop (entryFrame m #[(.ref o), (.ref f)] 2))
  rw [own_ef_rm_add2 m o f]
  show own_Go _ _ _ _ _ (State.setTop _ (mkF _ 0 #[.val (.ref o), .val (.ref f)] []))
  refine own_aloadN X0 hx 1 rfl (hb hby own_d14_0) rfl rfl ?_
  refine own_dup X0 hx 2 rfl (hb hby own_d14_1) rfl ?_
  refine own_getF X0 hx hZ (host := "") hown (Or.inl (own_hw hw 98 rfl)) (Via.of (own_hw hw 99 rfl)) e0 F1 5 rfl (hb hby own_d14_2) fun T377 X377 e377 => ?_
  refine own_iconst X377 hx 6 rfl (hb hby own_d14_5) (1 : Int32) rfl ?_
  refine own_iadd X377 hx 7 rfl (hb hby own_d14_6) _ rfl ?_
  refine own_putF X377 hx hZ (host := "") hown (Or.inl (own_hw hw 98 rfl)) (Via.of (own_hw hw 99 rfl)) e377 F1 E1 (Or.inl (own_hw hw 54 rfl)) (own_hw hw 35 rfl) (ty := .int) (by decide) rfl rfl 10 rfl (hb hby own_d14_7) fun T378 h378 X378 e378 W378 => ?_
  have f379 := E1.wr W378
  have f380 := F2.other W378 (Or.inr (slot_ne (Or.inl (own_hw hw 57 rfl)) (Or.inl (own_hw hw 54 rfl)) (by decide) (t := (.array (.object "java/lang/Object"))) (t' := .int) (by decide) (by decide)))
  have f381 := F3.other W378 (Or.inr (slot_ne (Or.inl (own_hw hw 101 rfl)) (Or.inl (own_hw hw 54 rfl)) (by decide) (t := .int) (t' := .int) (by decide) (by decide)))
  have f382 := A1.other W378 (Ne.symm ne_oa)
  have f383 := E2.wr W378
  have z384 := Nat.le_trans Z0 (Keep.of_wr W378).1
  have K385 := K0.wr W378 (Or.inl (List.mem_of_getElem? (i := 0) rfl))
  have f386 := F1.same W378
  have N387 := Fr.snoc X378 N0 g_o
  refine own_aloadN X378 hx 11 rfl (hb hby own_d14_10) rfl rfl ?_
  refine own_aloadN X378 hx 12 rfl (hb hby own_d14_11) rfl rfl ?_
  refine own_aloadN X378 hx 13 rfl (hb hby own_d14_12) rfl rfl ?_
  refine own_getF X378 hx hZ (host := "") hown (Or.inl (own_hw hw 56 rfl)) Via.refl e378 f380 16 rfl (hb hby own_d14_13) fun T388 X388 e388 => ?_
  refine own_aloadN X388 hx 17 rfl (hb hby own_d14_16) rfl rfl ?_
  refine own_getF X388 hx hZ (host := "") hown (Or.inl (own_hw hw 100 rfl)) Via.refl e388 f381 20 rfl (hb hby own_d14_17) fun T389 X389 e389 => ?_
  refine own_private X389 hx hZ (y := (⟨"java/util/ArrayList", "add", "(Ljava/lang/Object;[Ljava/lang/Object;I)V"⟩ : MethodName)) (z := (⟨"java/util/ArrayList", "add", "(Ljava/lang/Object;[Ljava/lang/Object;I)V"⟩ : MethodName)) hown (own_hw hw 102 rfl) (own_hw hw 103 rfl) rfl (own_hw hw 105 rfl) (own_hw hw 104 rfl) (a := o) f379 (by decide) (rm_addp2 l Z a0 hw [] o a ka (mc + (1 : Int32)) f xe0 xe1 h378 n0 z384 f379 f386 f380 f381 f382 O1 g_o g_a ne_oa f383) (own_hw hw 106 rfl) (own_hw hw 36 rfl) (by decide) e389 (by rw [hml]; rfl) [(.ref f), (.ref a), (.int (2 : Int32))] 0 (by decide) (Nat.le_of_eq rfl) (by decide) (by decide) (lenOf own_pd4 rfl) rfl rfl 23 rfl (hb hby own_d14_20) fun v390 T390 Lc390 X390 hQ390 => ?_
  obtain ⟨rfl, Nq390, Kq390, f391, f392, f393, f394, f395⟩ := hQ390
  have N396 := Fr.app N387 Nq390
  have f397 := f379.keep Kq390
  have f401 := f383.keep Kq390
  have z403 := Nat.le_trans z384 Kq390.1
  have K404 := K385.trans Kq390 (allS (Or.inl (List.mem_of_getElem? (i := 0) rfl)) (allS (Or.inl (List.mem_of_getElem? (i := 1) rfl)) all0))
  show own_Go _ _ _ _ _ (State.setTop _ (mkF _ 23 _ []))
  refine own_iconst X390 hx 24 rfl (hb hby own_d14_23) (1 : Int32) rfl ?_
  refine own_ret X390 (some (.int (1 : Int32))) (fun h => by rw [Bd.returns] at h; cases h) Bd.notSynchronized (by decide) (by decide) ?_ (fun fs hr => retN X390 hx (t := .boolean) Bd.returns (by simp) (hb hby own_d14_24) hr)
  show Q_rm_add2 Z o a ka mc f xe0 xe1 h0 n0 _ T390.heap _
  exact ⟨rfl, N396, K404, f391, f392, f393, f394, f395⟩
theorem own_pn6 : plainName "java/lang/Long" = true := by first | (simp [plainName, overriddenIn]; done) | decide +kernel
theorem own_ef_rm_longi (m : MethodId) (o : Addr) (y1 : Int64) : entryFrame m #[(.ref o), (.long y1)] 3 = mkF m 0 #[.val (.ref o), .val (.long y1), .second] [] := by first | (simp [entryFrame, mkF, argsToLocals, Value.category]; done) | rfl
def Q_rm_longi (Z : State) (o : Addr) (y1 : Int64) (h0 : Heap) (n0 : Nat) (v : Option Value) (h : Heap) (L : List Loc) : Prop := v = none ∧ Fr n0 L ∧ Keep h0 h [o] ∧ Exa Z h o "java/lang/Long" ∧ Fld Z h o "java/lang/Long" "value" "J" (.long y1)
theorem own_d19_0 : decode jdk_35_method_26_code 0 = .ok (.aload_n 0, 1) := by decide +kernel
theorem own_d19_1 : decode jdk_35_method_26_code 1 = .ok (.invokespecial 270, 3) := by decide +kernel
theorem own_d19_4 : decode jdk_35_method_26_code 4 = .ok (.aload_n 0, 1) := by decide +kernel
theorem own_d19_5 : decode jdk_35_method_26_code 5 = .ok (.lload_n 1, 1) := by decide +kernel
theorem own_d19_6 : decode jdk_35_method_26_code 6 = .ok (.putfield 273, 3) := by decide +kernel
theorem own_d19_9 : decode jdk_35_method_26_code 9 = .ok (.return_, 1) := by decide +kernel
set_option maxRecDepth 65536 in
set_option maxHeartbeats 40000000 in
theorem rm_longi (l : Launch) (Z : State) (a0 : Array Value) (hw : ∀ d ∈ tables_1, d.before a0 Z = true) (ws : List Jvm.Cond) (o : Addr) (y1 : Int64) (h0 : Heap) (n0 : Nat) (Z0 : n0 ≤ h0.size) (E1 : Exa Z h0 o "java/lang/Long") (F_value : Fld Z h0 o "java/lang/Long" "value" "J" (.long (0 : Int64))) (g_o : n0 ≤ o) :
    MetFree l (⟨"java/lang/Long", "<init>", "(J)V"⟩ : MethodName) (head1 (Jvm.Cond.code (⟨"java/lang/Long", "<init>", "(J)V"⟩ : MethodName) jdk_35_method_26_code 3 none :: ws) ({ frames := 2, cells := 0, slots := 0, locals := 30 } : Room)) (fun aa U => aa = #[(.ref o), (.long y1)] ∧ Z.Warmed39 U.vm ∧ U.heap = h0) (fun _ _ _ _ _ => True) (fun _ U ou U' => ∃ v L, ou = .returned v ∧ Q_rm_longi Z o y1 h0 n0 v U'.heap L ∧ FrameEnd U ou U' L ({ frames := 2, cells := 0, slots := 0, locals := 30 } : Room).cells ({ frames := 2, cells := 0, slots := 0, locals := 30 } : Room).slots) := by
  refine MetFree.of_bodySF (plainFor_of_name own_pn6) hisR ?_
  intro p e s m args below meth c s₁ Bd hml0 hP hK
  obtain ⟨rfl, hZ, hh⟩ := hP
  have hx := Bd.exec
  have hby := Bd.bytes
  have hml : c.maxLocals = 3 := hml0
  have hown : s.vm.findClass "java/lang/Long" = some m.cls := findClass_of_methodNamed Bd.named
  have hnm := (name_of_methodNamed Bd.named Bd.method).1
  have X0 : Stand p l e ({ frames := 2, cells := 0, slots := 0, locals := 30 } : Room) s m #[(.ref o), (.long y1)] below meth c s₁ [] 0 0 := Stand.of_body Bd
  have e0 : s₁.heap = h0 := by rw [← hh, Bd.state]; rfl
  have N0 := Fr.nil n0
  have K0 := Keep.refl h0 [o]
  show own_Go p e below (fun o u L => FrameEnd s o u L ({ frames := 2, cells := 0, slots := 0, locals := 30 } : Room).cells ({ frames := 2, cells := 0, slots := 0, locals := 30 } : Room).slots) (Q_rm_longi Z o y1 h0 n0) (s₁.setTop (entryFrame m #[(.ref o), (.long y1)] 3))
  rw [own_ef_rm_longi m o y1]
  show own_Go _ _ _ _ _ (State.setTop _ (mkF _ 0 #[.val (.ref o), .val (.long y1), .second] []))
  refine own_aloadN X0 hx 1 rfl (hb hby own_d19_0) rfl rfl ?_
  refine own_special X0 hx hZ (y := (⟨"java/lang/Number", "<init>", "()V"⟩ : MethodName)) hown rfl (own_hw hw 130 rfl) (own_hw hw 131 rfl) (a := o) (by decide) rfl (rm_num l Z a0 hw [] o h0 n0 Z0 ) (own_hw hw 135 rfl) (own_hw hw 134 rfl) (by decide) e0 (by rw [hml]; rfl) [] 0 (by decide) (Nat.le_of_eq rfl) (by decide) (by decide) (lenOf own_pd0 rfl) rfl rfl 4 rfl (hb hby own_d19_1) fun v405 T405 Lc405 X405 hQ405 => ?_
  obtain ⟨rfl, Nq405, e405⟩ := hQ405
  have N406 := Fr.app N0 Nq405
  show own_Go _ _ _ _ _ (State.setTop _ (mkF _ 4 _ []))
  refine own_aloadN X405 hx 5 rfl (hb hby own_d19_4) rfl rfl ?_
  refine own_lloadN X405 hx 6 rfl (hb hby own_d19_5) rfl ?_
  refine own_putF X405 hx hZ (host := "") hown (Or.inl (own_hw hw 137 rfl)) Via.refl e405 F_value E1 (Or.inr ⟨(own_hw hw 138 rfl), rfl, hnm⟩) (own_hw hw 125 rfl) (ty := .long) (by decide) rfl rfl 9 rfl (hb hby own_d19_6) fun T407 h407 X407 e407 W407 => ?_
  have f408 := E1.wr W407
  have z409 := Nat.le_trans Z0 (Keep.of_wr W407).1
  have K410 := K0.wr W407 (Or.inl (List.mem_of_getElem? (i := 0) rfl))
  have f411 := F_value.same W407
  have N412 := Fr.snoc X407 N406 g_o
  refine own_ret X407 none (fun _ => rfl) Bd.notSynchronized (by decide) (by decide) ?_ (fun fs hr => X407.returnOut hx Bd.returns (hb hby own_d19_9) hr)
  show Q_rm_longi Z o y1 h0 n0 _ T407.heap _
  rw [e407]
  exact ⟨rfl, N412, K410, f408, f411⟩
theorem own_pn7 : plainName "java/lang/Double" = true := by first | (simp [plainName, overriddenIn]; done) | decide +kernel
theorem own_ef_rm_dbli (m : MethodId) (o : Addr) (y1 : UInt64) : entryFrame m #[(.ref o), (.double y1)] 3 = mkF m 0 #[.val (.ref o), .val (.double y1), .second] [] := by first | (simp [entryFrame, mkF, argsToLocals, Value.category]; done) | rfl
def Q_rm_dbli (Z : State) (o : Addr) (y1 : UInt64) (h0 : Heap) (n0 : Nat) (v : Option Value) (h : Heap) (L : List Loc) : Prop := v = none ∧ Fr n0 L ∧ Keep h0 h [o] ∧ Exa Z h o "java/lang/Double" ∧ Fld Z h o "java/lang/Double" "value" "D" (.double y1)
theorem own_d45_0 : decode jdk_117_method_9_code 0 = .ok (.aload_n 0, 1) := by decide +kernel
theorem own_d45_1 : decode jdk_117_method_9_code 1 = .ok (.invokespecial 113, 3) := by decide +kernel
theorem own_d45_4 : decode jdk_117_method_9_code 4 = .ok (.aload_n 0, 1) := by decide +kernel
theorem own_d45_5 : decode jdk_117_method_9_code 5 = .ok (.dload_n 1, 1) := by decide +kernel
theorem own_d45_6 : decode jdk_117_method_9_code 6 = .ok (.putfield 118, 3) := by decide +kernel
theorem own_d45_9 : decode jdk_117_method_9_code 9 = .ok (.return_, 1) := by decide +kernel
set_option maxRecDepth 65536 in
set_option maxHeartbeats 40000000 in
theorem rm_dbli (l : Launch) (Z : State) (a0 : Array Value) (hw : ∀ d ∈ tables_1, d.before a0 Z = true) (ws : List Jvm.Cond) (o : Addr) (y1 : UInt64) (h0 : Heap) (n0 : Nat) (Z0 : n0 ≤ h0.size) (E1 : Exa Z h0 o "java/lang/Double") (F_value : Fld Z h0 o "java/lang/Double" "value" "D" (.double (0 : UInt64))) (g_o : n0 ≤ o) :
    MetFree l (⟨"java/lang/Double", "<init>", "(D)V"⟩ : MethodName) (head1 (Jvm.Cond.code (⟨"java/lang/Double", "<init>", "(D)V"⟩ : MethodName) jdk_117_method_9_code 3 none :: ws) ({ frames := 2, cells := 0, slots := 0, locals := 30 } : Room)) (fun aa U => aa = #[(.ref o), (.double y1)] ∧ Z.Warmed39 U.vm ∧ U.heap = h0) (fun _ _ _ _ _ => True) (fun _ U ou U' => ∃ v L, ou = .returned v ∧ Q_rm_dbli Z o y1 h0 n0 v U'.heap L ∧ FrameEnd U ou U' L ({ frames := 2, cells := 0, slots := 0, locals := 30 } : Room).cells ({ frames := 2, cells := 0, slots := 0, locals := 30 } : Room).slots) := by
  refine MetFree.of_bodySF (plainFor_of_name own_pn7) hisR ?_
  intro p e s m args below meth c s₁ Bd hml0 hP hK
  obtain ⟨rfl, hZ, hh⟩ := hP
  have hx := Bd.exec
  have hby := Bd.bytes
  have hml : c.maxLocals = 3 := hml0
  have hown : s.vm.findClass "java/lang/Double" = some m.cls := findClass_of_methodNamed Bd.named
  have hnm := (name_of_methodNamed Bd.named Bd.method).1
  have X0 : Stand p l e ({ frames := 2, cells := 0, slots := 0, locals := 30 } : Room) s m #[(.ref o), (.double y1)] below meth c s₁ [] 0 0 := Stand.of_body Bd
  have e0 : s₁.heap = h0 := by rw [← hh, Bd.state]; rfl
  have N0 := Fr.nil n0
  have K0 := Keep.refl h0 [o]
  show own_Go p e below (fun o u L => FrameEnd s o u L ({ frames := 2, cells := 0, slots := 0, locals := 30 } : Room).cells ({ frames := 2, cells := 0, slots := 0, locals := 30 } : Room).slots) (Q_rm_dbli Z o y1 h0 n0) (s₁.setTop (entryFrame m #[(.ref o), (.double y1)] 3))
  rw [own_ef_rm_dbli m o y1]
  show own_Go _ _ _ _ _ (State.setTop _ (mkF _ 0 #[.val (.ref o), .val (.double y1), .second] []))
  refine own_aloadN X0 hx 1 rfl (hb hby own_d45_0) rfl rfl ?_
  refine own_special X0 hx hZ (y := (⟨"java/lang/Number", "<init>", "()V"⟩ : MethodName)) hown rfl (own_hw hw 290 rfl) (own_hw hw 131 rfl) (a := o) (by decide) rfl (rm_num l Z a0 hw [] o h0 n0 Z0 ) (own_hw hw 135 rfl) (own_hw hw 134 rfl) (by decide) e0 (by rw [hml]; rfl) [] 0 (by decide) (Nat.le_of_eq rfl) (by decide) (by decide) (lenOf own_pd0 rfl) rfl rfl 4 rfl (hb hby own_d45_1) fun v413 T413 Lc413 X413 hQ413 => ?_
  obtain ⟨rfl, Nq413, e413⟩ := hQ413
  have N414 := Fr.app N0 Nq413
  show own_Go _ _ _ _ _ (State.setTop _ (mkF _ 4 _ []))
  refine own_aloadN X413 hx 5 rfl (hb hby own_d45_4) rfl rfl ?_
  refine own_dloadN X413 hx 6 rfl (hb hby own_d45_5) rfl ?_
  refine own_putF X413 hx hZ (host := "") hown (Or.inl (own_hw hw 292 rfl)) Via.refl e413 F_value E1 (Or.inr ⟨(own_hw hw 293 rfl), rfl, hnm⟩) (own_hw hw 285 rfl) (ty := .double) (by decide) rfl rfl 9 rfl (hb hby own_d45_6) fun T415 h415 X415 e415 W415 => ?_
  have f416 := E1.wr W415
  have z417 := Nat.le_trans Z0 (Keep.of_wr W415).1
  have K418 := K0.wr W415 (Or.inl (List.mem_of_getElem? (i := 0) rfl))
  have f419 := F_value.same W415
  have N420 := Fr.snoc X415 N414 g_o
  refine own_ret X415 none (fun _ => rfl) Bd.notSynchronized (by decide) (by decide) ?_ (fun fs hr => X415.returnOut hx Bd.returns (hb hby own_d45_9) hr)
  show Q_rm_dbli Z o y1 h0 n0 _ T415.heap _
  rw [e415]
  exact ⟨rfl, N420, K418, f416, f419⟩
theorem own_ef_rm_dblv (m : MethodId) (y1 : UInt64) : entryFrame m #[(.double y1)] 2 = mkF m 0 #[.val (.double y1), .second] [] := by first | (simp [entryFrame, mkF, argsToLocals, Value.category]; done) | rfl
def Q_rm_dblv (Z : State) (y1 : UInt64) (h0 : Heap) (n0 : Nat) (v : Option Value) (h : Heap) (L : List Loc) : Prop := ∃ (r : Addr), v = some (.ref r) ∧ Fr n0 L ∧ Keep h0 h [] ∧ (r < n0 ∨ h0.size ≤ r) ∧ Exa Z h r "java/lang/Double" ∧ Fld Z h r "java/lang/Double" "value" "D" (.double y1)
theorem own_d44_0 : decode jdk_117_method_4_code 0 = .ok (.new 1, 3) := by decide +kernel
theorem own_d44_3 : decode jdk_117_method_4_code 3 = .ok (.dup, 1) := by decide +kernel
theorem own_d44_4 : decode jdk_117_method_4_code 4 = .ok (.dload_n 0, 1) := by decide +kernel
theorem own_d44_5 : decode jdk_117_method_4_code 5 = .ok (.invokespecial 105, 3) := by decide +kernel
theorem own_pd5 : parseMethodDescriptor "(D)V" = some ⟨[.double], none⟩ := by decide +kernel
theorem own_d44_8 : decode jdk_117_method_4_code 8 = .ok (.areturn, 1) := by decide +kernel
set_option maxRecDepth 65536 in
set_option maxHeartbeats 40000000 in
theorem rm_dblv (l : Launch) (Z : State) (a0 : Array Value) (hw : ∀ d ∈ tables_1, d.before a0 Z = true) (ws : List Jvm.Cond) (y1 : UInt64) (h0 : Heap) (n0 : Nat) (Z0 : n0 ≤ h0.size)  :
    MetFree l (⟨"java/lang/Double", "valueOf", "(D)Ljava/lang/Double;"⟩ : MethodName) (head1 (Jvm.Cond.code (⟨"java/lang/Double", "valueOf", "(D)Ljava/lang/Double;"⟩ : MethodName) jdk_117_method_4_code 2 (some (.object "java/lang/Double")) :: ws) ({ frames := 3, cells := 1, slots := 1, locals := 45 } : Room)) (fun aa U => aa = #[(.double y1)] ∧ Z.Warmed39 U.vm ∧ U.heap = h0) (fun _ _ _ _ _ => True) (fun _ U ou U' => ∃ v L, ou = .returned v ∧ Q_rm_dblv Z y1 h0 n0 v U'.heap L ∧ FrameEnd U ou U' L ({ frames := 3, cells := 1, slots := 1, locals := 45 } : Room).cells ({ frames := 3, cells := 1, slots := 1, locals := 45 } : Room).slots) := by
  refine MetFree.of_bodySF (plainFor_of_name own_pn7) hisR ?_
  intro p e s m args below meth c s₁ Bd hml0 hP hK
  obtain ⟨rfl, hZ, hh⟩ := hP
  have hx := Bd.exec
  have hby := Bd.bytes
  have hml : c.maxLocals = 2 := hml0
  have hown : s.vm.findClass "java/lang/Double" = some m.cls := findClass_of_methodNamed Bd.named
  have hnm := (name_of_methodNamed Bd.named Bd.method).1
  have X0 : Stand p l e ({ frames := 3, cells := 1, slots := 1, locals := 45 } : Room) s m #[(.double y1)] below meth c s₁ [] 0 0 := Stand.of_body Bd
  have e0 : s₁.heap = h0 := by rw [← hh, Bd.state]; rfl
  have N0 := Fr.nil n0
  have K0 := Keep.refl h0 []
  show own_Go p e below (fun o u L => FrameEnd s o u L ({ frames := 3, cells := 1, slots := 1, locals := 45 } : Room).cells ({ frames := 3, cells := 1, slots := 1, locals := 45 } : Room).slots) (Q_rm_dblv Z y1 h0 n0) (s₁.setTop (entryFrame m #[(.double y1)] 2))
  rw [own_ef_rm_dblv m y1]
  show own_Go _ _ _ _ _ (State.setTop _ (mkF _ 0 #[.val (.double y1), .second] []))
  refine own_new X0 hx hZ hown (own_hw hw 284 rfl) (own_hw hw 285 rfl) (own_hw hw 282 rfl) e0 3 rfl (hb hby own_d44_0) (by decide) (by decide) fun T421 h421 b421 g421 X421 e421 E421 A421 D421 => ?_
  have ge422 : n0 ≤ b421 := Nat.le_trans Z0 (Nat.le_of_eq g421.symm)
  have sz423 : h0.size ≤ b421 := Nat.le_trans K0.1 (Nat.le_of_eq g421.symm)
  have z424 := Nat.le_trans Z0 E421.1
  have K425 := K0.ext E421
  have f426 : Fld Z h421 b421 "java/lang/Double" "value" "D" (.double (0 : UInt64)) := D421 (Or.inr (own_hw hw 293 rfl)) (ty := .double) (by decide)
  refine own_dup X421 hx 4 rfl (hb hby own_d44_3) rfl ?_
  refine own_dloadN X421 hx 5 rfl (hb hby own_d44_4) rfl ?_
  refine own_special X421 hx hZ (y := (⟨"java/lang/Double", "<init>", "(D)V"⟩ : MethodName)) hown rfl (own_hw hw 286 rfl) (own_hw hw 287 rfl) (a := b421) (by decide) rfl (rm_dbli l Z a0 hw [] b421 y1 h421 n0 z424 A421 f426 ge422) (own_hw hw 289 rfl) (own_hw hw 282 rfl) (by decide) e421 (by rw [hml]; rfl) [(.double y1)] 1 (by decide) (Nat.le_of_eq rfl) (by decide) (by decide) (lenOf own_pd5 rfl) rfl rfl 8 rfl (hb hby own_d44_5) fun v427 T427 Lc427 X427 hQ427 => ?_
  obtain ⟨rfl, Nq427, Kq427, f428, f429⟩ := hQ427
  have N430 := Fr.app N0 Nq427
  have f431 := A421.keep Kq427
  have z433 := Nat.le_trans z424 Kq427.1
  have K434 := K425.trans Kq427 (allS (Or.inr sz423) all0)
  show own_Go _ _ _ _ _ (State.setTop _ (mkF _ 8 _ [(.ref b421)]))
  refine own_ret X427 (some (.ref b421)) (fun h => by rw [Bd.returns] at h; cases h) Bd.notSynchronized (by decide) (by decide) ?_ (fun fs hr => own_retR X427 hx Bd.returns rfl rfl (hb hby own_d44_8) hr)
  show Q_rm_dblv Z y1 h0 n0 _ T427.heap _
  exact ⟨b421, rfl, N430, K434, (Or.inr sz423), f428, f429⟩
theorem own_ef_rm_longv (m : MethodId) (y1 : Int64) : entryFrame m #[(.long y1)] 3 = mkF m 0 #[.val (.long y1), .second, .unset] [] := by first | (simp [entryFrame, mkF, argsToLocals, Value.category]; done) | rfl
def Q_rm_longv (Z : State) (y1 : Int64) (h0 : Heap) (n0 : Nat) (v : Option Value) (h : Heap) (L : List Loc) : Prop := ∃ (r : Addr), v = some (.ref r) ∧ Fr n0 L ∧ Keep h0 h [] ∧ (r < n0 ∨ h0.size ≤ r) ∧ Exa Z h r "java/lang/Long" ∧ Fld Z h r "java/lang/Long" "value" "J" (.long y1)
theorem own_d11_0 : decode jdk_35_method_24_code 0 = .ok (.sipush 128, 3) := by decide +kernel
theorem own_d11_3 : decode jdk_35_method_24_code 3 = .ok (.istore_n 2, 1) := by decide +kernel
theorem own_d11_4 : decode jdk_35_method_24_code 4 = .ok (.lload_n 0, 1) := by decide +kernel
theorem own_d11_5 : decode jdk_35_method_24_code 5 = .ok (.ldc2_w 230, 3) := by decide +kernel
theorem own_d11_8 : decode jdk_35_method_24_code 8 = .ok (.lcmp, 1) := by decide +kernel
theorem own_d11_9 : decode jdk_35_method_24_code 9 = .ok (.ifCond .lt 22, 3) := by decide +kernel
theorem own_d11_31 : decode jdk_35_method_24_code 31 = .ok (.new 1, 3) := by decide +kernel
theorem own_d11_34 : decode jdk_35_method_24_code 34 = .ok (.dup, 1) := by decide +kernel
theorem own_d11_35 : decode jdk_35_method_24_code 35 = .ok (.lload_n 0, 1) := by decide +kernel
theorem own_d11_36 : decode jdk_35_method_24_code 36 = .ok (.invokespecial 240, 3) := by decide +kernel
theorem own_pd6 : parseMethodDescriptor "(J)V" = some ⟨[.long], none⟩ := by decide +kernel
theorem own_d11_39 : decode jdk_35_method_24_code 39 = .ok (.areturn, 1) := by decide +kernel
theorem own_d11_12 : decode jdk_35_method_24_code 12 = .ok (.lload_n 0, 1) := by decide +kernel
theorem own_d11_13 : decode jdk_35_method_24_code 13 = .ok (.ldc2_w 232, 3) := by decide +kernel
theorem own_d11_16 : decode jdk_35_method_24_code 16 = .ok (.lcmp, 1) := by decide +kernel
theorem own_d11_17 : decode jdk_35_method_24_code 17 = .ok (.ifCond .gt 14, 3) := by decide +kernel
theorem own_d11_20 : decode jdk_35_method_24_code 20 = .ok (.getstatic 234, 3) := by decide +kernel
theorem own_d11_23 : decode jdk_35_method_24_code 23 = .ok (.lload_n 0, 1) := by decide +kernel
theorem own_d11_24 : decode jdk_35_method_24_code 24 = .ok (.l2i, 1) := by decide +kernel
theorem own_d11_25 : decode jdk_35_method_24_code 25 = .ok (.sipush 128, 3) := by decide +kernel
theorem own_d11_28 : decode jdk_35_method_24_code 28 = .ok (.iadd, 1) := by decide +kernel
theorem own_d11_29 : decode jdk_35_method_24_code 29 = .ok (.aaload, 1) := by decide +kernel
theorem own_d11_30 : decode jdk_35_method_24_code 30 = .ok (.areturn, 1) := by decide +kernel
set_option maxRecDepth 65536 in
set_option maxHeartbeats 40000000 in
theorem rm_longv (l : Launch) (Z : State) (a0 : Array Value) (hw : ∀ d ∈ tables_1, d.before a0 Z = true) (ws : List Jvm.Cond) (y1 : Int64) (h0 : Heap) (n0 : Nat) (Z0 : n0 ≤ h0.size) (C1 : own_Ca Z h0 n0) :
    MetFree l (⟨"java/lang/Long", "valueOf", "(J)Ljava/lang/Long;"⟩ : MethodName) (head1 (Jvm.Cond.code (⟨"java/lang/Long", "valueOf", "(J)Ljava/lang/Long;"⟩ : MethodName) jdk_35_method_24_code 3 (some (.object "java/lang/Long")) :: ws) ({ frames := 3, cells := 1, slots := 1, locals := 45 } : Room)) (fun aa U => aa = #[(.long y1)] ∧ Z.Warmed39 U.vm ∧ U.heap = h0) (fun _ _ _ _ _ => True) (fun _ U ou U' => ∃ v L, ou = .returned v ∧ Q_rm_longv Z y1 h0 n0 v U'.heap L ∧ FrameEnd U ou U' L ({ frames := 3, cells := 1, slots := 1, locals := 45 } : Room).cells ({ frames := 3, cells := 1, slots := 1, locals := 45 } : Room).slots) := by
  refine MetFree.of_bodySF (plainFor_of_name own_pn6) hisR ?_
  intro p e s m args below meth c s₁ Bd hml0 hP hK
  obtain ⟨rfl, hZ, hh⟩ := hP
  have hx := Bd.exec
  have hby := Bd.bytes
  have hml : c.maxLocals = 3 := hml0
  have hown : s.vm.findClass "java/lang/Long" = some m.cls := findClass_of_methodNamed Bd.named
  have hnm := (name_of_methodNamed Bd.named Bd.method).1
  have X0 : Stand p l e ({ frames := 3, cells := 1, slots := 1, locals := 45 } : Room) s m #[(.long y1)] below meth c s₁ [] 0 0 := Stand.of_body Bd
  have e0 : s₁.heap = h0 := by rw [← hh, Bd.state]; rfl
  have N0 := Fr.nil n0
  have K0 := Keep.refl h0 []
  show own_Go p e below (fun o u L => FrameEnd s o u L ({ frames := 3, cells := 1, slots := 1, locals := 45 } : Room).cells ({ frames := 3, cells := 1, slots := 1, locals := 45 } : Room).slots) (Q_rm_longv Z y1 h0 n0) (s₁.setTop (entryFrame m #[(.long y1)] 3))
  rw [own_ef_rm_longv m y1]
  show own_Go _ _ _ _ _ (State.setTop _ (mkF _ 0 #[.val (.long y1), .second, .unset] []))
  refine own_sipush X0 hx 3 rfl (hb hby own_d11_0) (128 : Int32) rfl ?_
  refine own_istoreN X0 hx 4 rfl (hb hby own_d11_3) #[.val (.long y1), .second, .val (.int (128 : Int32))] rfl ?_
  refine own_lloadN X0 hx 5 rfl (hb hby own_d11_4) rfl ?_
  refine own_ldcJ X0 hx hZ hown (own_hw hw 72 rfl) 8 rfl (hb hby own_d11_5) ?_
  refine own_lcmp X0 hx 9 rfl (hb hby own_d11_8) _ rfl ?_
  by_cases hc435 : lcmpW y1 (-128 : Int64) < 0
  ·
    refine own_ifYes X0 hx 31 (hb hby own_d11_9) ((if0 _ _).trans (tlt hc435).1) (by decide) rfl ?_
    refine own_new X0 hx hZ hown (own_hw hw 124 rfl) (own_hw hw 125 rfl) (own_hw hw 70 rfl) e0 34 rfl (hb hby own_d11_31) (by decide) (by decide) fun T436 h436 b436 g436 X436 e436 E436 A436 D436 => ?_
    have ge437 : n0 ≤ b436 := Nat.le_trans Z0 (Nat.le_of_eq g436.symm)
    have sz438 : h0.size ≤ b436 := Nat.le_trans K0.1 (Nat.le_of_eq g436.symm)
    have f439 := C1.ext E436
    have z440 := Nat.le_trans Z0 E436.1
    have K441 := K0.ext E436
    have f442 : Fld Z h436 b436 "java/lang/Long" "value" "J" (.long (0 : Int64)) := D436 (Or.inr (own_hw hw 138 rfl)) (ty := .long) (by decide)
    refine own_dup X436 hx 35 rfl (hb hby own_d11_34) rfl ?_
    refine own_lloadN X436 hx 36 rfl (hb hby own_d11_35) rfl ?_
    refine own_special X436 hx hZ (y := (⟨"java/lang/Long", "<init>", "(J)V"⟩ : MethodName)) hown rfl (own_hw hw 126 rfl) (own_hw hw 127 rfl) (a := b436) (by decide) rfl (rm_longi l Z a0 hw [] b436 y1 h436 n0 z440 A436 f442 ge437) (own_hw hw 129 rfl) (own_hw hw 70 rfl) (by decide) e436 (by rw [hml]; rfl) [(.long y1)] 1 (by decide) (Nat.le_of_eq rfl) (by decide) (by decide) (lenOf own_pd6 rfl) rfl rfl 39 rfl (hb hby own_d11_36) fun v443 T443 Lc443 X443 hQ443 => ?_
    obtain ⟨rfl, Nq443, Kq443, f444, f445⟩ := hQ443
    have N446 := Fr.app N0 Nq443
    have f447 := A436.keep Kq443
    have z449 := Nat.le_trans z440 Kq443.1
    have K450 := K441.trans Kq443 (allS (Or.inr sz438) all0)
    have f451 := f439.keep Kq443 (allS ge437 all0) (nsS A436.nostat ns0)
    show own_Go _ _ _ _ _ (State.setTop _ (mkF _ 39 _ [(.ref b436)]))
    refine own_ret X443 (some (.ref b436)) (fun h => by rw [Bd.returns] at h; cases h) Bd.notSynchronized (by decide) (by decide) ?_ (fun fs hr => own_retR X443 hx Bd.returns rfl rfl (hb hby own_d11_39) hr)
    show Q_rm_longv Z y1 h0 n0 _ T443.heap _
    exact ⟨b436, rfl, N446, K450, (Or.inr sz438), f444, f445⟩
  ·
    refine own_ifNo X0 hx 12 rfl (hb hby own_d11_9) ((if0 _ _).trans (flt hc435).1) ?_
    refine own_lloadN X0 hx 13 rfl (hb hby own_d11_12) rfl ?_
    refine own_ldcJ X0 hx hZ hown (own_hw hw 73 rfl) 16 rfl (hb hby own_d11_13) ?_
    refine own_lcmp X0 hx 17 rfl (hb hby own_d11_16) _ rfl ?_
    by_cases hc452 : 0 < lcmpW y1 (127 : Int64)
    ·
      refine own_ifYes X0 hx 31 (hb hby own_d11_17) ((if0 _ _).trans (tlt hc452).2.2.1) (by decide) rfl ?_
      refine own_new X0 hx hZ hown (own_hw hw 124 rfl) (own_hw hw 125 rfl) (own_hw hw 70 rfl) e0 34 rfl (hb hby own_d11_31) (by decide) (by decide) fun T453 h453 b453 g453 X453 e453 E453 A453 D453 => ?_
      have ge454 : n0 ≤ b453 := Nat.le_trans Z0 (Nat.le_of_eq g453.symm)
      have sz455 : h0.size ≤ b453 := Nat.le_trans K0.1 (Nat.le_of_eq g453.symm)
      have f456 := C1.ext E453
      have z457 := Nat.le_trans Z0 E453.1
      have K458 := K0.ext E453
      have f459 : Fld Z h453 b453 "java/lang/Long" "value" "J" (.long (0 : Int64)) := D453 (Or.inr (own_hw hw 138 rfl)) (ty := .long) (by decide)
      refine own_dup X453 hx 35 rfl (hb hby own_d11_34) rfl ?_
      refine own_lloadN X453 hx 36 rfl (hb hby own_d11_35) rfl ?_
      refine own_special X453 hx hZ (y := (⟨"java/lang/Long", "<init>", "(J)V"⟩ : MethodName)) hown rfl (own_hw hw 126 rfl) (own_hw hw 127 rfl) (a := b453) (by decide) rfl (rm_longi l Z a0 hw [] b453 y1 h453 n0 z457 A453 f459 ge454) (own_hw hw 129 rfl) (own_hw hw 70 rfl) (by decide) e453 (by rw [hml]; rfl) [(.long y1)] 1 (by decide) (Nat.le_of_eq rfl) (by decide) (by decide) (lenOf own_pd6 rfl) rfl rfl 39 rfl (hb hby own_d11_36) fun v460 T460 Lc460 X460 hQ460 => ?_
      obtain ⟨rfl, Nq460, Kq460, f461, f462⟩ := hQ460
      have N463 := Fr.app N0 Nq460
      have f464 := A453.keep Kq460
      have z466 := Nat.le_trans z457 Kq460.1
      have K467 := K458.trans Kq460 (allS (Or.inr sz455) all0)
      have f468 := f456.keep Kq460 (allS ge454 all0) (nsS A453.nostat ns0)
      show own_Go _ _ _ _ _ (State.setTop _ (mkF _ 39 _ [(.ref b453)]))
      refine own_ret X460 (some (.ref b453)) (fun h => by rw [Bd.returns] at h; cases h) Bd.notSynchronized (by decide) (by decide) ?_ (fun fs hr => own_retR X460 hx Bd.returns rfl rfl (hb hby own_d11_39) hr)
      show Q_rm_longv Z y1 h0 n0 _ T460.heap _
      exact ⟨b453, rfl, N463, K467, (Or.inr sz455), f461, f462⟩
    ·
      refine own_ifNo X0 hx 20 rfl (hb hby own_d11_17) ((if0 _ _).trans (flt hc452).2.2.1) ?_
      obtain ⟨aC, kC, vs, fS, fA, lC, fC⟩ := C1
      obtain ⟨ii, hi, e1i, e2i, inb⟩ := own_onC hc435 hc452
      obtain ⟨yy, ly, ey, fE, fF⟩ := fC ii hi
      rw [e2i] at fF
      rw [← e1i] at ey
      refine own_getS X0 hx hZ (host := "") hown (Or.inl (own_hw hw 74 rfl)) Via.refl e0 fS 23 rfl (hb hby own_d11_20) fun T469 X469 e469 => ?_
      refine own_lloadN X469 hx 24 rfl (hb hby own_d11_23) rfl ?_
      refine own_l2i X469 hx 25 rfl (hb hby own_d11_24) _ rfl ?_
      refine own_sipush X469 hx 28 rfl (hb hby own_d11_25) (128 : Int32) rfl ?_
      refine own_iadd X469 hx 29 rfl (hb hby own_d11_28) _ rfl ?_
      refine own_ldR X469 hx hZ e469 fA rfl inb yy ey 30 rfl (hb hby own_d11_29) ?_
      refine own_ret X469 (some (.ref yy)) (fun h => by rw [Bd.returns] at h; cases h) Bd.notSynchronized (by decide) (by decide) ?_ (fun fs hr => own_retR X469 hx Bd.returns rfl rfl (hb hby own_d11_30) hr)
      show Q_rm_longv Z y1 h0 n0 _ T469.heap _
      rw [e469]
      exact ⟨yy, rfl, N0, K0, (Or.inl ly), fE, fF⟩
theorem own_pn8 : plainName "com/example/measured_reasoner/measuredreasoner/Summary$Field" = true := by first | (simp [plainName, overriddenIn]; done) | decide +kernel
theorem own_ef_rm_fdi (m : MethodId) (o : Addr) (nm : Addr) (va : Addr) : entryFrame m #[(.ref o), (.ref nm), (.ref va)] 3 = mkF m 0 #[.val (.ref o), .val (.ref nm), .val (.ref va)] [] := by first | (simp [entryFrame, mkF, argsToLocals, Value.category]; done) | rfl
def Q_rm_fdi (Z : State) (o : Addr) (nm : Addr) (va : Addr) (h0 : Heap) (n0 : Nat) (v : Option Value) (h : Heap) (L : List Loc) : Prop := v = none ∧ Fr n0 L ∧ Keep h0 h [o] ∧ Exa Z h o "com/example/measured_reasoner/measuredreasoner/Summary$Field" ∧ Fld Z h o "com/example/measured_reasoner/measuredreasoner/Summary$Field" "name" "Ljava/lang/String;" (.ref nm) ∧ Fld Z h o "com/example/measured_reasoner/measuredreasoner/Summary$Field" "value" "Ljava/lang/Number;" (.ref va)
theorem own_d12_0 : decode prog_20_method_1_code 0 = .ok (.aload_n 0, 1) := by decide +kernel
theorem own_d12_1 : decode prog_20_method_1_code 1 = .ok (.invokespecial 1, 3) := by decide +kernel
theorem own_d12_4 : decode prog_20_method_1_code 4 = .ok (.aload_n 0, 1) := by decide +kernel
theorem own_d12_5 : decode prog_20_method_1_code 5 = .ok (.aload_n 1, 1) := by decide +kernel
theorem own_d12_6 : decode prog_20_method_1_code 6 = .ok (.putfield 7, 3) := by decide +kernel
theorem own_d12_9 : decode prog_20_method_1_code 9 = .ok (.aload_n 0, 1) := by decide +kernel
theorem own_d12_10 : decode prog_20_method_1_code 10 = .ok (.aload_n 2, 1) := by decide +kernel
theorem own_d12_11 : decode prog_20_method_1_code 11 = .ok (.putfield 13, 3) := by decide +kernel
theorem own_d12_14 : decode prog_20_method_1_code 14 = .ok (.return_, 1) := by decide +kernel
set_option maxRecDepth 65536 in
set_option maxHeartbeats 40000000 in
theorem rm_fdi (l : Launch) (Z : State) (a0 : Array Value) (hw : ∀ d ∈ tables_1, d.before a0 Z = true) (ws : List Jvm.Cond) (o : Addr) (nm : Addr) (va : Addr) (h0 : Heap) (n0 : Nat) (Z0 : n0 ≤ h0.size) (E1 : Exa Z h0 o "com/example/measured_reasoner/measuredreasoner/Summary$Field") (F_name : Fld Z h0 o "com/example/measured_reasoner/measuredreasoner/Summary$Field" "name" "Ljava/lang/String;" .null) (F_value : Fld Z h0 o "com/example/measured_reasoner/measuredreasoner/Summary$Field" "value" "Ljava/lang/Number;" .null) (g_o : n0 ≤ o) :
    MetFree l (⟨"com/example/measured_reasoner/measuredreasoner/Summary$Field", "<init>", "(Ljava/lang/String;Ljava/lang/Number;)V"⟩ : MethodName) (head1 (Jvm.Cond.code (⟨"com/example/measured_reasoner/measuredreasoner/Summary$Field", "<init>", "(Ljava/lang/String;Ljava/lang/Number;)V"⟩ : MethodName) prog_20_method_1_code 3 none :: ws) ({ frames := 2, cells := 0, slots := 0, locals := 30 } : Room)) (fun aa U => aa = #[(.ref o), (.ref nm), (.ref va)] ∧ Z.Warmed39 U.vm ∧ U.heap = h0) (fun _ _ _ _ _ => True) (fun _ U ou U' => ∃ v L, ou = .returned v ∧ Q_rm_fdi Z o nm va h0 n0 v U'.heap L ∧ FrameEnd U ou U' L ({ frames := 2, cells := 0, slots := 0, locals := 30 } : Room).cells ({ frames := 2, cells := 0, slots := 0, locals := 30 } : Room).slots) := by
  refine MetFree.of_bodySF (plainFor_of_name own_pn8) hisR ?_
  intro p e s m args below meth c s₁ Bd hml0 hP hK
  obtain ⟨rfl, hZ, hh⟩ := hP
  have hx := Bd.exec
  have hby := Bd.bytes
  have hml : c.maxLocals = 3 := hml0
  have hown : s.vm.findClass "com/example/measured_reasoner/measuredreasoner/Summary$Field" = some m.cls := findClass_of_methodNamed Bd.named
  have hnm := (name_of_methodNamed Bd.named Bd.method).1
  have X0 : Stand p l e ({ frames := 2, cells := 0, slots := 0, locals := 30 } : Room) s m #[(.ref o), (.ref nm), (.ref va)] below meth c s₁ [] 0 0 := Stand.of_body Bd
  have e0 : s₁.heap = h0 := by rw [← hh, Bd.state]; rfl
  have N0 := Fr.nil n0
  have K0 := Keep.refl h0 [o]
  show own_Go p e below (fun o u L => FrameEnd s o u L ({ frames := 2, cells := 0, slots := 0, locals := 30 } : Room).cells ({ frames := 2, cells := 0, slots := 0, locals := 30 } : Room).slots) (Q_rm_fdi Z o nm va h0 n0) (s₁.setTop (entryFrame m #[(.ref o), (.ref nm), (.ref va)] 3))
  rw [own_ef_rm_fdi m o nm va]
  show own_Go _ _ _ _ _ (State.setTop _ (mkF _ 0 #[.val (.ref o), .val (.ref nm), .val (.ref va)] []))
  refine own_aloadN X0 hx 1 rfl (hb hby own_d12_0) rfl rfl ?_
  refine own_special X0 hx hZ (y := (⟨"java/lang/Record", "<init>", "()V"⟩ : MethodName)) hown rfl (own_hw hw 79 rfl) (own_hw hw 80 rfl) (a := o) (by decide) rfl (rm_rec l Z a0 hw [] o h0 n0 Z0 ) (own_hw hw 83 rfl) (own_hw hw 82 rfl) (by decide) e0 (by rw [hml]; rfl) [] 0 (by decide) (Nat.le_of_eq rfl) (by decide) (by decide) (lenOf own_pd0 rfl) rfl rfl 4 rfl (hb hby own_d12_1) fun v470 T470 Lc470 X470 hQ470 => ?_
  obtain ⟨rfl, Nq470, e470⟩ := hQ470
  have N471 := Fr.app N0 Nq470
  show own_Go _ _ _ _ _ (State.setTop _ (mkF _ 4 _ []))
  refine own_aloadN X470 hx 5 rfl (hb hby own_d12_4) rfl rfl ?_
  refine own_aloadN X470 hx 6 rfl (hb hby own_d12_5) rfl rfl ?_
  refine own_putF X470 hx hZ (host := "") hown (Or.inl (own_hw hw 85 rfl)) Via.refl e470 F_name E1 (Or.inr ⟨(own_hw hw 86 rfl), rfl, hnm⟩) (own_hw hw 66 rfl) (ty := (.object "java/lang/String")) (by decide) rfl rfl 9 rfl (hb hby own_d12_6) fun T472 h472 X472 e472 W472 => ?_
  have f473 := E1.wr W472
  have f474 := F_value.other W472 (Or.inr (slot_ne (Or.inr (own_hw hw 88 rfl)) (Or.inr (own_hw hw 86 rfl)) (by decide) (t := (.object "java/lang/Number")) (t' := (.object "java/lang/String")) (by decide) (by decide)))
  have z475 := Nat.le_trans Z0 (Keep.of_wr W472).1
  have K476 := K0.wr W472 (Or.inl (List.mem_of_getElem? (i := 0) rfl))
  have f477 := F_name.same W472
  have N478 := Fr.snoc X472 N471 g_o
  refine own_aloadN X472 hx 10 rfl (hb hby own_d12_9) rfl rfl ?_
  refine own_aloadN X472 hx 11 rfl (hb hby own_d12_10) rfl rfl ?_
  refine own_putF X472 hx hZ (host := "") hown (Or.inl (own_hw hw 87 rfl)) Via.refl e472 f474 f473 (Or.inr ⟨(own_hw hw 88 rfl), rfl, hnm⟩) (own_hw hw 66 rfl) (ty := (.object "java/lang/Number")) (by decide) rfl rfl 14 rfl (hb hby own_d12_11) fun T479 h479 X479 e479 W479 => ?_
  have f480 := f473.wr W479
  have f481 := f477.other W479 (Or.inr (slot_ne (Or.inr (own_hw hw 86 rfl)) (Or.inr (own_hw hw 88 rfl)) (by decide) (t := (.object "java/lang/String")) (t' := (.object "java/lang/Number")) (by decide) (by decide)))
  have z482 := Nat.le_trans z475 (Keep.of_wr W479).1
  have K483 := K476.wr W479 (Or.inl (List.mem_of_getElem? (i := 0) rfl))
  have f484 := f474.same W479
  have N485 := Fr.snoc X479 N478 g_o
  refine own_ret X479 none (fun _ => rfl) Bd.notSynchronized (by decide) (by decide) ?_ (fun fs hr => X479.returnOut hx Bd.returns (hb hby own_d12_14) hr)
  show Q_rm_fdi Z o nm va h0 n0 _ T479.heap _
  rw [e479]
  exact ⟨rfl, N485, K483, f480, f481, f484⟩
theorem own_ef_rm_fval (m : MethodId) (o : Addr) : entryFrame m #[(.ref o)] 1 = mkF m 0 #[.val (.ref o)] [] := by first | (simp [entryFrame, mkF, argsToLocals, Value.category]; done) | rfl
def Q_rm_fval (Z : State) (o : Addr) (u : Addr) (h0 : Heap) (n0 : Nat) (v : Option Value) (h : Heap) (L : List Loc) : Prop := v = some (.ref u) ∧ Fr n0 L ∧ h = h0
theorem own_d34_0 : decode prog_20_method_8_code 0 = .ok (.aload_n 0, 1) := by decide +kernel
theorem own_d34_1 : decode prog_20_method_8_code 1 = .ok (.getfield 13, 3) := by decide +kernel
theorem own_d34_4 : decode prog_20_method_8_code 4 = .ok (.areturn, 1) := by decide +kernel
set_option maxRecDepth 65536 in
set_option maxHeartbeats 40000000 in
theorem rm_fval (l : Launch) (Z : State) (a0 : Array Value) (hw : ∀ d ∈ tables_1, d.before a0 Z = true) (ws : List Jvm.Cond) (o : Addr) (u : Addr) (h0 : Heap) (n0 : Nat) (Z0 : n0 ≤ h0.size) (F1 : Fld Z h0 o "com/example/measured_reasoner/measuredreasoner/Summary$Field" "value" "Ljava/lang/Number;" (.ref u)) :
    MetFree l (⟨"com/example/measured_reasoner/measuredreasoner/Summary$Field", "value", "()Ljava/lang/Number;"⟩ : MethodName) (head1 (Jvm.Cond.code (⟨"com/example/measured_reasoner/measuredreasoner/Summary$Field", "value", "()Ljava/lang/Number;"⟩ : MethodName) prog_20_method_8_code 1 (some (.object "java/lang/Number")) :: ws) ({ frames := 0, cells := 0, slots := 0, locals := 0 } : Room)) (fun aa U => aa = #[(.ref o)] ∧ Z.Warmed39 U.vm ∧ U.heap = h0) (fun _ _ _ _ _ => True) (fun _ U ou U' => ∃ v L, ou = .returned v ∧ Q_rm_fval Z o u h0 n0 v U'.heap L ∧ FrameEnd U ou U' L ({ frames := 0, cells := 0, slots := 0, locals := 0 } : Room).cells ({ frames := 0, cells := 0, slots := 0, locals := 0 } : Room).slots) := by
  refine MetFree.of_bodySF (plainFor_of_name own_pn8) hisR ?_
  intro p e s m args below meth c s₁ Bd hml0 hP hK
  obtain ⟨rfl, hZ, hh⟩ := hP
  have hx := Bd.exec
  have hby := Bd.bytes
  have hml : c.maxLocals = 1 := hml0
  have hown : s.vm.findClass "com/example/measured_reasoner/measuredreasoner/Summary$Field" = some m.cls := findClass_of_methodNamed Bd.named
  have hnm := (name_of_methodNamed Bd.named Bd.method).1
  have X0 : Stand p l e ({ frames := 0, cells := 0, slots := 0, locals := 0 } : Room) s m #[(.ref o)] below meth c s₁ [] 0 0 := Stand.of_body Bd
  have e0 : s₁.heap = h0 := by rw [← hh, Bd.state]; rfl
  have N0 := Fr.nil n0
  show own_Go p e below (fun o u L => FrameEnd s o u L ({ frames := 0, cells := 0, slots := 0, locals := 0 } : Room).cells ({ frames := 0, cells := 0, slots := 0, locals := 0 } : Room).slots) (Q_rm_fval Z o u h0 n0) (s₁.setTop (entryFrame m #[(.ref o)] 1))
  rw [own_ef_rm_fval m o]
  show own_Go _ _ _ _ _ (State.setTop _ (mkF _ 0 #[.val (.ref o)] []))
  refine own_aloadN X0 hx 1 rfl (hb hby own_d34_0) rfl rfl ?_
  refine own_getF X0 hx hZ (host := "") hown (Or.inl (own_hw hw 87 rfl)) Via.refl e0 F1 4 rfl (hb hby own_d34_1) fun T486 X486 e486 => ?_
  refine own_ret X486 (some (.ref u)) (fun h => by rw [Bd.returns] at h; cases h) Bd.notSynchronized (by decide) (by decide) ?_ (fun fs hr => own_retR X486 hx Bd.returns rfl rfl (hb hby own_d34_4) hr)
  show Q_rm_fval Z o u h0 n0 _ T486.heap _
  rw [e486]
  exact ⟨rfl, N0, rfl⟩
theorem own_ef_rm_fname (m : MethodId) (o : Addr) : entryFrame m #[(.ref o)] 1 = mkF m 0 #[.val (.ref o)] [] := by first | (simp [entryFrame, mkF, argsToLocals, Value.category]; done) | rfl
def Q_rm_fname (Z : State) (o : Addr) (u : Addr) (h0 : Heap) (n0 : Nat) (v : Option Value) (h : Heap) (L : List Loc) : Prop := v = some (.ref u) ∧ Fr n0 L ∧ h = h0
theorem own_d35_0 : decode prog_20_method_7_code 0 = .ok (.aload_n 0, 1) := by decide +kernel
theorem own_d35_1 : decode prog_20_method_7_code 1 = .ok (.getfield 7, 3) := by decide +kernel
theorem own_d35_4 : decode prog_20_method_7_code 4 = .ok (.areturn, 1) := by decide +kernel
set_option maxRecDepth 65536 in
set_option maxHeartbeats 40000000 in
theorem rm_fname (l : Launch) (Z : State) (a0 : Array Value) (hw : ∀ d ∈ tables_1, d.before a0 Z = true) (ws : List Jvm.Cond) (o : Addr) (u : Addr) (h0 : Heap) (n0 : Nat) (Z0 : n0 ≤ h0.size) (F1 : Fld Z h0 o "com/example/measured_reasoner/measuredreasoner/Summary$Field" "name" "Ljava/lang/String;" (.ref u)) :
    MetFree l (⟨"com/example/measured_reasoner/measuredreasoner/Summary$Field", "name", "()Ljava/lang/String;"⟩ : MethodName) (head1 (Jvm.Cond.code (⟨"com/example/measured_reasoner/measuredreasoner/Summary$Field", "name", "()Ljava/lang/String;"⟩ : MethodName) prog_20_method_7_code 1 (some (.object "java/lang/String")) :: ws) ({ frames := 0, cells := 0, slots := 0, locals := 0 } : Room)) (fun aa U => aa = #[(.ref o)] ∧ Z.Warmed39 U.vm ∧ U.heap = h0) (fun _ _ _ _ _ => True) (fun _ U ou U' => ∃ v L, ou = .returned v ∧ Q_rm_fname Z o u h0 n0 v U'.heap L ∧ FrameEnd U ou U' L ({ frames := 0, cells := 0, slots := 0, locals := 0 } : Room).cells ({ frames := 0, cells := 0, slots := 0, locals := 0 } : Room).slots) := by
  refine MetFree.of_bodySF (plainFor_of_name own_pn8) hisR ?_
  intro p e s m args below meth c s₁ Bd hml0 hP hK
  obtain ⟨rfl, hZ, hh⟩ := hP
  have hx := Bd.exec
  have hby := Bd.bytes
  have hml : c.maxLocals = 1 := hml0
  have hown : s.vm.findClass "com/example/measured_reasoner/measuredreasoner/Summary$Field" = some m.cls := findClass_of_methodNamed Bd.named
  have hnm := (name_of_methodNamed Bd.named Bd.method).1
  have X0 : Stand p l e ({ frames := 0, cells := 0, slots := 0, locals := 0 } : Room) s m #[(.ref o)] below meth c s₁ [] 0 0 := Stand.of_body Bd
  have e0 : s₁.heap = h0 := by rw [← hh, Bd.state]; rfl
  have N0 := Fr.nil n0
  show own_Go p e below (fun o u L => FrameEnd s o u L ({ frames := 0, cells := 0, slots := 0, locals := 0 } : Room).cells ({ frames := 0, cells := 0, slots := 0, locals := 0 } : Room).slots) (Q_rm_fname Z o u h0 n0) (s₁.setTop (entryFrame m #[(.ref o)] 1))
  rw [own_ef_rm_fname m o]
  show own_Go _ _ _ _ _ (State.setTop _ (mkF _ 0 #[.val (.ref o)] []))
  refine own_aloadN X0 hx 1 rfl (hb hby own_d35_0) rfl rfl ?_
  refine own_getF X0 hx hZ (host := "") hown (Or.inl (own_hw hw 85 rfl)) Via.refl e0 F1 4 rfl (hb hby own_d35_1) fun T487 X487 e487 => ?_
  refine own_ret X487 (some (.ref u)) (fun h => by rw [Bd.returns] at h; cases h) Bd.notSynchronized (by decide) (by decide) ?_ (fun fs hr => own_retR X487 hx Bd.returns rfl rfl (hb hby own_d35_4) hr)
  show Q_rm_fname Z o u h0 n0 _ T487.heap _
  rw [e487]
  exact ⟨rfl, N0, rfl⟩
theorem own_pn9 : plainName "java/util/Collections$UnmodifiableCollection" = true := by first | (simp [plainName, overriddenIn]; done) | decide +kernel
theorem own_ef_rm_uc (m : MethodId) (o : Addr) (li : Addr) : entryFrame m #[(.ref o), (.ref li)] 2 = mkF m 0 #[.val (.ref o), .val (.ref li)] [] := by first | (simp [entryFrame, mkF, argsToLocals, Value.category]; done) | rfl
def Q_rm_uc (Z : State) (o : Addr) (li : Addr) (h0 : Heap) (n0 : Nat) (v : Option Value) (h : Heap) (L : List Loc) : Prop := v = none ∧ Fr n0 L ∧ Keep h0 h [o] ∧ Exa Z h o "java/util/Collections$UnmodifiableRandomAccessList" ∧ Fld Z h o "java/util/Collections$UnmodifiableCollection" "c" "Ljava/util/Collection;" (.ref li) ∧ Fld Z h o "java/util/Collections$UnmodifiableList" "list" "Ljava/util/List;" .null
theorem own_d25_0 : decode jdk_119_method_1_code 0 = .ok (.aload_n 0, 1) := by decide +kernel
theorem own_d25_1 : decode jdk_119_method_1_code 1 = .ok (.invokespecial 1, 3) := by decide +kernel
theorem own_d25_4 : decode jdk_119_method_1_code 4 = .ok (.aload_n 1, 1) := by decide +kernel
theorem own_d25_5 : decode jdk_119_method_1_code 5 = .ok (.ifnonnull 11, 3) := by decide +kernel
theorem own_d25_16 : decode jdk_119_method_1_code 16 = .ok (.aload_n 0, 1) := by decide +kernel
theorem own_d25_17 : decode jdk_119_method_1_code 17 = .ok (.aload_n 1, 1) := by decide +kernel
theorem own_d25_18 : decode jdk_119_method_1_code 18 = .ok (.putfield 10, 3) := by decide +kernel
theorem own_d25_21 : decode jdk_119_method_1_code 21 = .ok (.return_, 1) := by decide +kernel
set_option maxRecDepth 65536 in
set_option maxHeartbeats 40000000 in
theorem rm_uc (l : Launch) (Z : State) (a0 : Array Value) (hw : ∀ d ∈ tables_1, d.before a0 Z = true) (ws : List Jvm.Cond) (o : Addr) (li : Addr) (h0 : Heap) (n0 : Nat) (Z0 : n0 ≤ h0.size) (E1 : Exa Z h0 o "java/util/Collections$UnmodifiableRandomAccessList") (F1 : Fld Z h0 o "java/util/Collections$UnmodifiableCollection" "c" "Ljava/util/Collection;" .null) (F2 : Fld Z h0 o "java/util/Collections$UnmodifiableList" "list" "Ljava/util/List;" .null) (g_o : n0 ≤ o) :
    MetFree l (⟨"java/util/Collections$UnmodifiableCollection", "<init>", "(Ljava/util/Collection;)V"⟩ : MethodName) (head1 (Jvm.Cond.code (⟨"java/util/Collections$UnmodifiableCollection", "<init>", "(Ljava/util/Collection;)V"⟩ : MethodName) jdk_119_method_1_code 2 none :: ws) ({ frames := 1, cells := 0, slots := 0, locals := 13 } : Room)) (fun aa U => aa = #[(.ref o), (.ref li)] ∧ Z.Warmed39 U.vm ∧ U.heap = h0) (fun _ _ _ _ _ => True) (fun _ U ou U' => ∃ v L, ou = .returned v ∧ Q_rm_uc Z o li h0 n0 v U'.heap L ∧ FrameEnd U ou U' L ({ frames := 1, cells := 0, slots := 0, locals := 13 } : Room).cells ({ frames := 1, cells := 0, slots := 0, locals := 13 } : Room).slots) := by
  refine MetFree.of_bodySF (plainFor_of_name own_pn9) hisR ?_
  intro p e s m args below meth c s₁ Bd hml0 hP hK
  obtain ⟨rfl, hZ, hh⟩ := hP
  have hx := Bd.exec
  have hby := Bd.bytes
  have hml : c.maxLocals = 2 := hml0
  have hown : s.vm.findClass "java/util/Collections$UnmodifiableCollection" = some m.cls := findClass_of_methodNamed Bd.named
  have hnm := (name_of_methodNamed Bd.named Bd.method).1
  have X0 : Stand p l e ({ frames := 1, cells := 0, slots := 0, locals := 13 } : Room) s m #[(.ref o), (.ref li)] below meth c s₁ [] 0 0 := Stand.of_body Bd
  have e0 : s₁.heap = h0 := by rw [← hh, Bd.state]; rfl
  have N0 := Fr.nil n0
  have K0 := Keep.refl h0 [o]
  show own_Go p e below (fun o u L => FrameEnd s o u L ({ frames := 1, cells := 0, slots := 0, locals := 13 } : Room).cells ({ frames := 1, cells := 0, slots := 0, locals := 13 } : Room).slots) (Q_rm_uc Z o li h0 n0) (s₁.setTop (entryFrame m #[(.ref o), (.ref li)] 2))
  rw [own_ef_rm_uc m o li]
  show own_Go _ _ _ _ _ (State.setTop _ (mkF _ 0 #[.val (.ref o), .val (.ref li)] []))
  refine own_aloadN X0 hx 1 rfl (hb hby own_d25_0) rfl rfl ?_
  refine own_initO X0 hx hZ hown (own_hw hw 181 rfl) (own_hw hw 21 rfl) (own_hw hw 22 rfl) e0 (by rw [hml]; rfl) 4 rfl (hb hby own_d25_1) (by decide) 0 (Nat.le_of_eq rfl) (by decide) fun T488 X488 e488 => ?_
  refine own_aloadN X488 hx 5 rfl (hb hby own_d25_4) rfl rfl ?_
  refine own_ifnonnullYes X488 hx 16 (hb hby own_d25_5) (by decide) rfl ?_
  refine own_aloadN X488 hx 17 rfl (hb hby own_d25_16) rfl rfl ?_
  refine own_aloadN X488 hx 18 rfl (hb hby own_d25_17) rfl rfl ?_
  refine own_putF X488 hx hZ (host := "") hown (Or.inl (own_hw hw 182 rfl)) Via.refl e488 F1 E1 (Or.inr ⟨(own_hw hw 183 rfl), rfl, hnm⟩) (own_hw hw 164 rfl) (ty := (.object "java/util/Collection")) (by decide) rfl rfl 21 rfl (hb hby own_d25_18) fun T489 h489 X489 e489 W489 => ?_
  have f490 := E1.wr W489
  have f491 := F2.other W489 (Or.inr (slot_ne (Or.inr (own_hw hw 185 rfl)) (Or.inr (own_hw hw 183 rfl)) (by decide) (t := (.object "java/util/List")) (t' := (.object "java/util/Collection")) (by decide) (by decide)))
  have z492 := Nat.le_trans Z0 (Keep.of_wr W489).1
  have K493 := K0.wr W489 (Or.inl (List.mem_of_getElem? (i := 0) rfl))
  have f494 := F1.same W489
  have N495 := Fr.snoc X489 N0 g_o
  refine own_ret X489 none (fun _ => rfl) Bd.notSynchronized (by decide) (by decide) ?_ (fun fs hr => X489.returnOut hx Bd.returns (hb hby own_d25_21) hr)
  show Q_rm_uc Z o li h0 n0 _ T489.heap _
  rw [e489]
  exact ⟨rfl, N495, K493, f490, f494, f491⟩
theorem own_pn10 : plainName "java/util/Collections$UnmodifiableList" = true := by first | (simp [plainName, overriddenIn]; done) | decide +kernel
theorem own_ef_rm_ul (m : MethodId) (o : Addr) (li : Addr) : entryFrame m #[(.ref o), (.ref li)] 2 = mkF m 0 #[.val (.ref o), .val (.ref li)] [] := by first | (simp [entryFrame, mkF, argsToLocals, Value.category]; done) | rfl
def Q_rm_ul (Z : State) (o : Addr) (li : Addr) (h0 : Heap) (n0 : Nat) (v : Option Value) (h : Heap) (L : List Loc) : Prop := v = none ∧ Fr n0 L ∧ Keep h0 h [o] ∧ Exa Z h o "java/util/Collections$UnmodifiableRandomAccessList" ∧ Fld Z h o "java/util/Collections$UnmodifiableCollection" "c" "Ljava/util/Collection;" (.ref li) ∧ Fld Z h o "java/util/Collections$UnmodifiableList" "list" "Ljava/util/List;" (.ref li)
theorem own_d24_0 : decode jdk_120_method_1_code 0 = .ok (.aload_n 0, 1) := by decide +kernel
theorem own_d24_1 : decode jdk_120_method_1_code 1 = .ok (.aload_n 1, 1) := by decide +kernel
theorem own_d24_2 : decode jdk_120_method_1_code 2 = .ok (.invokespecial 1, 3) := by decide +kernel
theorem own_pd7 : parseMethodDescriptor "(Ljava/util/Collection;)V" = some ⟨[(.object "java/util/Collection")], none⟩ := by decide +kernel
theorem own_d24_5 : decode jdk_120_method_1_code 5 = .ok (.aload_n 0, 1) := by decide +kernel
theorem own_d24_6 : decode jdk_120_method_1_code 6 = .ok (.aload_n 1, 1) := by decide +kernel
theorem own_d24_7 : decode jdk_120_method_1_code 7 = .ok (.putfield 7, 3) := by decide +kernel
theorem own_d24_10 : decode jdk_120_method_1_code 10 = .ok (.return_, 1) := by decide +kernel
set_option maxRecDepth 65536 in
set_option maxHeartbeats 40000000 in
theorem rm_ul (l : Launch) (Z : State) (a0 : Array Value) (hw : ∀ d ∈ tables_1, d.before a0 Z = true) (ws : List Jvm.Cond) (o : Addr) (li : Addr) (h0 : Heap) (n0 : Nat) (Z0 : n0 ≤ h0.size) (E1 : Exa Z h0 o "java/util/Collections$UnmodifiableRandomAccessList") (F1 : Fld Z h0 o "java/util/Collections$UnmodifiableCollection" "c" "Ljava/util/Collection;" .null) (F2 : Fld Z h0 o "java/util/Collections$UnmodifiableList" "list" "Ljava/util/List;" .null) (g_o : n0 ≤ o) :
    MetFree l (⟨"java/util/Collections$UnmodifiableList", "<init>", "(Ljava/util/List;)V"⟩ : MethodName) (head1 (Jvm.Cond.code (⟨"java/util/Collections$UnmodifiableList", "<init>", "(Ljava/util/List;)V"⟩ : MethodName) jdk_120_method_1_code 2 none :: ws) ({ frames := 2, cells := 0, slots := 0, locals := 30 } : Room)) (fun aa U => aa = #[(.ref o), (.ref li)] ∧ Z.Warmed39 U.vm ∧ U.heap = h0) (fun _ _ _ _ _ => True) (fun _ U ou U' => ∃ v L, ou = .returned v ∧ Q_rm_ul Z o li h0 n0 v U'.heap L ∧ FrameEnd U ou U' L ({ frames := 2, cells := 0, slots := 0, locals := 30 } : Room).cells ({ frames := 2, cells := 0, slots := 0, locals := 30 } : Room).slots) := by
  refine MetFree.of_bodySF (plainFor_of_name own_pn10) hisR ?_
  intro p e s m args below meth c s₁ Bd hml0 hP hK
  obtain ⟨rfl, hZ, hh⟩ := hP
  have hx := Bd.exec
  have hby := Bd.bytes
  have hml : c.maxLocals = 2 := hml0
  have hown : s.vm.findClass "java/util/Collections$UnmodifiableList" = some m.cls := findClass_of_methodNamed Bd.named
  have hnm := (name_of_methodNamed Bd.named Bd.method).1
  have X0 : Stand p l e ({ frames := 2, cells := 0, slots := 0, locals := 30 } : Room) s m #[(.ref o), (.ref li)] below meth c s₁ [] 0 0 := Stand.of_body Bd
  have e0 : s₁.heap = h0 := by rw [← hh, Bd.state]; rfl
  have N0 := Fr.nil n0
  have K0 := Keep.refl h0 [o]
  show own_Go p e below (fun o u L => FrameEnd s o u L ({ frames := 2, cells := 0, slots := 0, locals := 30 } : Room).cells ({ frames := 2, cells := 0, slots := 0, locals := 30 } : Room).slots) (Q_rm_ul Z o li h0 n0) (s₁.setTop (entryFrame m #[(.ref o), (.ref li)] 2))
  rw [own_ef_rm_ul m o li]
  show own_Go _ _ _ _ _ (State.setTop _ (mkF _ 0 #[.val (.ref o), .val (.ref li)] []))
  refine own_aloadN X0 hx 1 rfl (hb hby own_d24_0) rfl rfl ?_
  refine own_aloadN X0 hx 2 rfl (hb hby own_d24_1) rfl rfl ?_
  refine own_special X0 hx hZ (y := (⟨"java/util/Collections$UnmodifiableCollection", "<init>", "(Ljava/util/Collection;)V"⟩ : MethodName)) hown rfl (own_hw hw 175 rfl) (own_hw hw 176 rfl) (a := o) (by decide) rfl (rm_uc l Z a0 hw [] o li h0 n0 Z0 E1 F1 F2 g_o) (own_hw hw 180 rfl) (own_hw hw 179 rfl) (by decide) e0 (by rw [hml]; rfl) [(.ref li)] 0 (by decide) (Nat.le_of_eq rfl) (by decide) (by decide) (lenOf own_pd7 rfl) rfl rfl 5 rfl (hb hby own_d24_2) fun v496 T496 Lc496 X496 hQ496 => ?_
  obtain ⟨rfl, Nq496, Kq496, f497, f498, f499⟩ := hQ496
  have N500 := Fr.app N0 Nq496
  have f501 := E1.keep Kq496
  have z504 := Nat.le_trans Z0 Kq496.1
  have K505 := K0.trans Kq496 (allS (Or.inl (List.mem_of_getElem? (i := 0) rfl)) all0)
  show own_Go _ _ _ _ _ (State.setTop _ (mkF _ 5 _ []))
  refine own_aloadN X496 hx 6 rfl (hb hby own_d24_5) rfl rfl ?_
  refine own_aloadN X496 hx 7 rfl (hb hby own_d24_6) rfl rfl ?_
  refine own_putF X496 hx hZ (host := "") hown (Or.inl (own_hw hw 184 rfl)) Via.refl rfl f499 f497 (Or.inr ⟨(own_hw hw 185 rfl), rfl, hnm⟩) (own_hw hw 164 rfl) (ty := (.object "java/util/List")) (by decide) rfl rfl 10 rfl (hb hby own_d24_7) fun T506 h506 X506 e506 W506 => ?_
  have f507 := f497.wr W506
  have f508 := f498.other W506 (Or.inr (slot_ne (Or.inr (own_hw hw 183 rfl)) (Or.inr (own_hw hw 185 rfl)) (by decide) (t := (.object "java/util/Collection")) (t' := (.object "java/util/List")) (by decide) (by decide)))
  have z509 := Nat.le_trans z504 (Keep.of_wr W506).1
  have K510 := K505.wr W506 (Or.inl (List.mem_of_getElem? (i := 0) rfl))
  have f511 := f499.same W506
  have N512 := Fr.snoc X506 N500 g_o
  refine own_ret X506 none (fun _ => rfl) Bd.notSynchronized (by decide) (by decide) ?_ (fun fs hr => X506.returnOut hx Bd.returns (hb hby own_d24_10) hr)
  show Q_rm_ul Z o li h0 n0 _ T506.heap _
  rw [e506]
  exact ⟨rfl, N512, K510, f507, f508, f511⟩
theorem own_pn11 : plainName "java/util/Collections$UnmodifiableRandomAccessList" = true := by first | (simp [plainName, overriddenIn]; done) | decide +kernel
theorem own_ef_rm_ur (m : MethodId) (o : Addr) (li : Addr) : entryFrame m #[(.ref o), (.ref li)] 2 = mkF m 0 #[.val (.ref o), .val (.ref li)] [] := by first | (simp [entryFrame, mkF, argsToLocals, Value.category]; done) | rfl
def Q_rm_ur (Z : State) (o : Addr) (li : Addr) (h0 : Heap) (n0 : Nat) (v : Option Value) (h : Heap) (L : List Loc) : Prop := v = none ∧ Fr n0 L ∧ Keep h0 h [o] ∧ Exa Z h o "java/util/Collections$UnmodifiableRandomAccessList" ∧ Fld Z h o "java/util/Collections$UnmodifiableCollection" "c" "Ljava/util/Collection;" (.ref li) ∧ Fld Z h o "java/util/Collections$UnmodifiableList" "list" "Ljava/util/List;" (.ref li)
theorem own_d23_0 : decode jdk_121_method_1_code 0 = .ok (.aload_n 0, 1) := by decide +kernel
theorem own_d23_1 : decode jdk_121_method_1_code 1 = .ok (.aload_n 1, 1) := by decide +kernel
theorem own_d23_2 : decode jdk_121_method_1_code 2 = .ok (.invokespecial 1, 3) := by decide +kernel
theorem own_pd8 : parseMethodDescriptor "(Ljava/util/List;)V" = some ⟨[(.object "java/util/List")], none⟩ := by decide +kernel
theorem own_d23_5 : decode jdk_121_method_1_code 5 = .ok (.return_, 1) := by decide +kernel
set_option maxRecDepth 65536 in
set_option maxHeartbeats 40000000 in
theorem rm_ur (l : Launch) (Z : State) (a0 : Array Value) (hw : ∀ d ∈ tables_1, d.before a0 Z = true) (ws : List Jvm.Cond) (o : Addr) (li : Addr) (h0 : Heap) (n0 : Nat) (Z0 : n0 ≤ h0.size) (E1 : Exa Z h0 o "java/util/Collections$UnmodifiableRandomAccessList") (F1 : Fld Z h0 o "java/util/Collections$UnmodifiableCollection" "c" "Ljava/util/Collection;" .null) (F2 : Fld Z h0 o "java/util/Collections$UnmodifiableList" "list" "Ljava/util/List;" .null) (g_o : n0 ≤ o) :
    MetFree l (⟨"java/util/Collections$UnmodifiableRandomAccessList", "<init>", "(Ljava/util/List;)V"⟩ : MethodName) (head1 (Jvm.Cond.code (⟨"java/util/Collections$UnmodifiableRandomAccessList", "<init>", "(Ljava/util/List;)V"⟩ : MethodName) jdk_121_method_1_code 2 none :: ws) ({ frames := 3, cells := 0, slots := 0, locals := 45 } : Room)) (fun aa U => aa = #[(.ref o), (.ref li)] ∧ Z.Warmed39 U.vm ∧ U.heap = h0) (fun _ _ _ _ _ => True) (fun _ U ou U' => ∃ v L, ou = .returned v ∧ Q_rm_ur Z o li h0 n0 v U'.heap L ∧ FrameEnd U ou U' L ({ frames := 3, cells := 0, slots := 0, locals := 45 } : Room).cells ({ frames := 3, cells := 0, slots := 0, locals := 45 } : Room).slots) := by
  refine MetFree.of_bodySF (plainFor_of_name own_pn11) hisR ?_
  intro p e s m args below meth c s₁ Bd hml0 hP hK
  obtain ⟨rfl, hZ, hh⟩ := hP
  have hx := Bd.exec
  have hby := Bd.bytes
  have hml : c.maxLocals = 2 := hml0
  have hown : s.vm.findClass "java/util/Collections$UnmodifiableRandomAccessList" = some m.cls := findClass_of_methodNamed Bd.named
  have hnm := (name_of_methodNamed Bd.named Bd.method).1
  have X0 : Stand p l e ({ frames := 3, cells := 0, slots := 0, locals := 45 } : Room) s m #[(.ref o), (.ref li)] below meth c s₁ [] 0 0 := Stand.of_body Bd
  have e0 : s₁.heap = h0 := by rw [← hh, Bd.state]; rfl
  have N0 := Fr.nil n0
  have K0 := Keep.refl h0 [o]
  show own_Go p e below (fun o u L => FrameEnd s o u L ({ frames := 3, cells := 0, slots := 0, locals := 45 } : Room).cells ({ frames := 3, cells := 0, slots := 0, locals := 45 } : Room).slots) (Q_rm_ur Z o li h0 n0) (s₁.setTop (entryFrame m #[(.ref o), (.ref li)] 2))
  rw [own_ef_rm_ur m o li]
  show own_Go _ _ _ _ _ (State.setTop _ (mkF _ 0 #[.val (.ref o), .val (.ref li)] []))
  refine own_aloadN X0 hx 1 rfl (hb hby own_d23_0) rfl rfl ?_
  refine own_aloadN X0 hx 2 rfl (hb hby own_d23_1) rfl rfl ?_
  refine own_special X0 hx hZ (y := (⟨"java/util/Collections$UnmodifiableList", "<init>", "(Ljava/util/List;)V"⟩ : MethodName)) hown rfl (own_hw hw 169 rfl) (own_hw hw 170 rfl) (a := o) (by decide) rfl (rm_ul l Z a0 hw [] o li h0 n0 Z0 E1 F1 F2 g_o) (own_hw hw 174 rfl) (own_hw hw 173 rfl) (by decide) e0 (by rw [hml]; rfl) [(.ref li)] 0 (by decide) (Nat.le_of_eq rfl) (by decide) (by decide) (lenOf own_pd8 rfl) rfl rfl 5 rfl (hb hby own_d23_2) fun v513 T513 Lc513 X513 hQ513 => ?_
  obtain ⟨rfl, Nq513, Kq513, f514, f515, f516⟩ := hQ513
  have N517 := Fr.app N0 Nq513
  have f518 := E1.keep Kq513
  have z521 := Nat.le_trans Z0 Kq513.1
  have K522 := K0.trans Kq513 (allS (Or.inl (List.mem_of_getElem? (i := 0) rfl)) all0)
  show own_Go _ _ _ _ _ (State.setTop _ (mkF _ 5 _ []))
  refine own_ret X513 none (fun _ => rfl) Bd.notSynchronized (by decide) (by decide) ?_ (fun fs hr => X513.returnOut hx Bd.returns (hb hby own_d23_5) hr)
  show Q_rm_ur Z o li h0 n0 _ T513.heap _
  exact ⟨rfl, N517, K522, f514, f515, f516⟩
theorem own_pn12 : plainName "java/util/Collections" = true := by first | (simp [plainName, overriddenIn]; done) | decide +kernel
theorem own_ef_rm_un (m : MethodId) (li : Addr) : entryFrame m #[(.ref li)] 1 = mkF m 0 #[.val (.ref li)] [] := by first | (simp [entryFrame, mkF, argsToLocals, Value.category]; done) | rfl
def Q_rm_un (Z : State) (li : Addr) (mA : Addr) (mL : Addr) (mR : Addr) (h0 : Heap) (n0 : Nat) (v : Option Value) (h : Heap) (L : List Loc) : Prop := ∃ (u : Addr), v = some (.ref u) ∧ Fr n0 L ∧ Keep h0 h [] ∧ h0.size ≤ u ∧ Exa Z h u "java/util/Collections$UnmodifiableRandomAccessList" ∧ Fld Z h u "java/util/Collections$UnmodifiableCollection" "c" "Ljava/util/Collection;" (.ref li) ∧ Fld Z h u "java/util/Collections$UnmodifiableList" "list" "Ljava/util/List;" (.ref li)
theorem own_d22_0 : decode jdk_79_method_35_code 0 = .ok (.aload_n 0, 1) := by decide +kernel
theorem own_d22_1 : decode jdk_79_method_35_code 1 = .ok (.invokeinterface 211 1, 5) := by decide +kernel
theorem own_d22_6 : decode jdk_79_method_35_code 6 = .ok (.ldc 212, 2) := by decide +kernel
theorem own_d22_8 : decode jdk_79_method_35_code 8 = .ok (.if_acmp .eq 14, 3) := by decide +kernel
theorem own_d22_11 : decode jdk_79_method_35_code 11 = .ok (.aload_n 0, 1) := by decide +kernel
theorem own_d22_12 : decode jdk_79_method_35_code 12 = .ok (.invokeinterface 214 1, 5) := by decide +kernel
theorem own_d22_17 : decode jdk_79_method_35_code 17 = .ok (.ldc 215, 2) := by decide +kernel
theorem own_d22_19 : decode jdk_79_method_35_code 19 = .ok (.if_acmp .ne 5, 3) := by decide +kernel
theorem own_d22_24 : decode jdk_79_method_35_code 24 = .ok (.aload_n 0, 1) := by decide +kernel
theorem own_d22_25 : decode jdk_79_method_35_code 25 = .ok (.instanceof 13, 3) := by decide +kernel
theorem own_d22_28 : decode jdk_79_method_35_code 28 = .ok (.ifCond .eq 14, 3) := by decide +kernel
theorem own_d22_31 : decode jdk_79_method_35_code 31 = .ok (.new 215, 3) := by decide +kernel
theorem own_d22_34 : decode jdk_79_method_35_code 34 = .ok (.dup, 1) := by decide +kernel
theorem own_d22_35 : decode jdk_79_method_35_code 35 = .ok (.aload_n 0, 1) := by decide +kernel
theorem own_d22_36 : decode jdk_79_method_35_code 36 = .ok (.invokespecial 217, 3) := by decide +kernel
theorem own_d22_39 : decode jdk_79_method_35_code 39 = .ok (.goto 11, 3) := by decide +kernel
theorem own_d22_50 : decode jdk_79_method_35_code 50 = .ok (.areturn, 1) := by decide +kernel
set_option maxRecDepth 65536 in
set_option maxHeartbeats 40000000 in
theorem rm_un (l : Launch) (Z : State) (a0 : Array Value) (hw : ∀ d ∈ tables_1, d.before a0 Z = true) (ws : List Jvm.Cond) (li : Addr) (mA : Addr) (mL : Addr) (mR : Addr) (h0 : Heap) (n0 : Nat) (Z0 : n0 ≤ h0.size) (E1 : Exa Z h0 li "java/util/ArrayList") (M1 : own_Mi Z "java/util/ArrayList" mA) (M2 : own_Mi Z "java/util/Collections$UnmodifiableList" mL) (M3 : own_Mi Z "java/util/Collections$UnmodifiableRandomAccessList" mR) (nAL : mA ≠ mL) (nAR : mA ≠ mR) :
    MetFree l (⟨"java/util/Collections", "unmodifiableList", "(Ljava/util/List;)Ljava/util/List;"⟩ : MethodName) (head1 (Jvm.Cond.code (⟨"java/util/Collections", "unmodifiableList", "(Ljava/util/List;)Ljava/util/List;"⟩ : MethodName) jdk_79_method_35_code 1 (some (.object "java/util/List")) :: ws) ({ frames := 4, cells := 1, slots := 2, locals := 60 } : Room)) (fun aa U => aa = #[(.ref li)] ∧ Z.Warmed39 U.vm ∧ U.heap = h0) (fun _ _ _ _ _ => True) (fun _ U ou U' => ∃ v L, ou = .returned v ∧ Q_rm_un Z li mA mL mR h0 n0 v U'.heap L ∧ FrameEnd U ou U' L ({ frames := 4, cells := 1, slots := 2, locals := 60 } : Room).cells ({ frames := 4, cells := 1, slots := 2, locals := 60 } : Room).slots) := by
  refine MetFree.of_bodySF (plainFor_of_name own_pn12) hisR ?_
  intro p e s m args below meth c s₁ Bd hml0 hP hK
  obtain ⟨rfl, hZ, hh⟩ := hP
  have hx := Bd.exec
  have hby := Bd.bytes
  have hml : c.maxLocals = 1 := hml0
  have hown : s.vm.findClass "java/util/Collections" = some m.cls := findClass_of_methodNamed Bd.named
  have hnm := (name_of_methodNamed Bd.named Bd.method).1
  have X0 : Stand p l e ({ frames := 4, cells := 1, slots := 2, locals := 60 } : Room) s m #[(.ref li)] below meth c s₁ [] 0 0 := Stand.of_body Bd
  have e0 : s₁.heap = h0 := by rw [← hh, Bd.state]; rfl
  have N0 := Fr.nil n0
  have K0 := Keep.refl h0 []
  show own_Go p e below (fun o u L => FrameEnd s o u L ({ frames := 4, cells := 1, slots := 2, locals := 60 } : Room).cells ({ frames := 4, cells := 1, slots := 2, locals := 60 } : Room).slots) (Q_rm_un Z li mA mL mR h0 n0) (s₁.setTop (entryFrame m #[(.ref li)] 1))
  rw [own_ef_rm_un m li]
  show own_Go _ _ _ _ _ (State.setTop _ (mkF _ 0 #[.val (.ref li)] []))
  refine own_aloadN X0 hx 1 rfl (hb hby own_d22_0) rfl rfl ?_
  refine own_gclsI X0 hx hZ (C := "java/util/ArrayList") (xi := (⟨"java/util/List", "getClass", "()Ljava/lang/Class;"⟩ : MethodName)) hown (own_hw hw 148 rfl) (own_hw hw 149 rfl) (own_hw hw 150 rfl) (own_hw hw 151 rfl) (own_hw hw 152 rfl) (own_hw hw 153 rfl) (own_hw hw 154 rfl) (own_hw hw 96 rfl) (own_hw hw 155 rfl) (by decide) (by decide) rfl rfl e0 (by rw [hml]; rfl) E1 M1 6 rfl (hb hby own_d22_1) (by decide) 0 (Nat.le_of_eq rfl) (by decide) fun T523 X523 e523 => ?_
  refine own_ldcM X523 hx hZ hown (own_hw hw 157 rfl) M2 e523 8 rfl (hb hby own_d22_6) fun T524 X524 e524 => ?_
  refine own_acmp X524 hx false 11 (hb hby own_d22_8) rfl rfl (decide_eq_false fun q => nAL (Value.ref.inj q)) (by decide) (by decide) ?_
  refine own_aloadN X524 hx 12 rfl (hb hby own_d22_11) rfl rfl ?_
  refine own_gclsI X524 hx hZ (C := "java/util/ArrayList") (xi := (⟨"java/util/List", "getClass", "()Ljava/lang/Class;"⟩ : MethodName)) hown (own_hw hw 159 rfl) (own_hw hw 149 rfl) (own_hw hw 150 rfl) (own_hw hw 151 rfl) (own_hw hw 152 rfl) (own_hw hw 153 rfl) (own_hw hw 154 rfl) (own_hw hw 96 rfl) (own_hw hw 155 rfl) (by decide) (by decide) rfl rfl e524 (by rw [hml]; rfl) E1 M1 17 rfl (hb hby own_d22_12) (by decide) 0 (Nat.le_of_eq rfl) (by decide) fun T525 X525 e525 => ?_
  refine own_ldcM X525 hx hZ hown (own_hw hw 160 rfl) M3 e525 19 rfl (hb hby own_d22_17) fun T526 X526 e526 => ?_
  refine own_acmp X526 hx false 24 (hb hby own_d22_19) rfl rfl (decide_eq_false fun q => nAR (Value.ref.inj q)) (by decide) (by decide) ?_
  refine own_aloadN X526 hx 25 rfl (hb hby own_d22_24) rfl rfl ?_
  obtain ⟨T527, X527, e527, st527⟩ := instY X526 hx hZ hown (own_hw hw 162 rfl) e526 (Ins.of_exa E1 (own_hw hw 163 rfl)) (g := (mkF m 25 #[.val (.ref li)] [(.ref li)])) rfl rfl (hb hby own_d22_25)
  refine own_st st527 ?_
  show own_Go _ _ _ _ _ (State.setTop _ (mkF _ 28 #[.val (.ref li)] [(.int (1 : Int32))]))
  refine own_ifNo X527 hx 31 rfl (hb hby own_d22_28) (by decide) ?_
  refine own_new X527 hx hZ hown (own_hw hw 160 rfl) (own_hw hw 164 rfl) (own_hw hw 165 rfl) e527 34 rfl (hb hby own_d22_31) (by decide) (by decide) fun T528 h528 b528 g528 X528 e528 E528 A528 D528 => ?_
  have ne529 : li ≠ b528 := Nat.ne_of_lt (Nat.lt_of_lt_of_le E1.lt (Nat.le_of_eq g528.symm))
  have ge530 : n0 ≤ b528 := Nat.le_trans Z0 (Nat.le_of_eq g528.symm)
  have sz531 : h0.size ≤ b528 := Nat.le_trans K0.1 (Nat.le_of_eq g528.symm)
  have f532 := E1.ext E528
  have z533 := Nat.le_trans Z0 E528.1
  have K534 := K0.ext E528
  have f535 : Fld Z h528 b528 "java/util/Collections$UnmodifiableCollection" "c" "Ljava/util/Collection;" .null := D528 (Or.inr (own_hw hw 183 rfl)) (ty := (.object "java/util/Collection")) (by decide)
  have f536 : Fld Z h528 b528 "java/util/Collections$UnmodifiableList" "list" "Ljava/util/List;" .null := D528 (Or.inr (own_hw hw 185 rfl)) (ty := (.object "java/util/List")) (by decide)
  refine own_dup X528 hx 35 rfl (hb hby own_d22_34) rfl ?_
  refine own_aloadN X528 hx 36 rfl (hb hby own_d22_35) rfl rfl ?_
  refine own_special X528 hx hZ (y := (⟨"java/util/Collections$UnmodifiableRandomAccessList", "<init>", "(Ljava/util/List;)V"⟩ : MethodName)) hown rfl (own_hw hw 166 rfl) (own_hw hw 167 rfl) (a := b528) (by decide) rfl (rm_ur l Z a0 hw [] b528 li h528 n0 z533 A528 f535 f536 ge530) (own_hw hw 168 rfl) (own_hw hw 165 rfl) (by decide) e528 (by rw [hml]; rfl) [(.ref li)] 1 (by decide) (Nat.le_of_eq rfl) (by decide) (by decide) (lenOf own_pd8 rfl) rfl rfl 39 rfl (hb hby own_d22_36) fun v537 T537 Lc537 X537 hQ537 => ?_
  obtain ⟨rfl, Nq537, Kq537, f538, f539, f540⟩ := hQ537
  have N541 := Fr.app N0 Nq537
  have f542 := f532.keep Kq537
  have f543 := A528.keep Kq537
  have z546 := Nat.le_trans z533 Kq537.1
  have K547 := K534.trans Kq537 (allS (Or.inr sz531) all0)
  show own_Go _ _ _ _ _ (State.setTop _ (mkF _ 39 _ [(.ref b528)]))
  refine own_goto X537 hx 50 (hb hby own_d22_39) (by decide) rfl ?_
  refine own_ret X537 (some (.ref b528)) (fun h => by rw [Bd.returns] at h; cases h) Bd.notSynchronized (by decide) (by decide) ?_ (fun fs hr => own_retR X537 hx Bd.returns rfl rfl (hb hby own_d22_50) hr)
  show Q_rm_un Z li mA mL mR h0 n0 _ T537.heap _
  exact ⟨b528, rfl, N541, K547, sz531, f538, f539, f540⟩
theorem own_ef_rm_fs (m : MethodId) (o : Addr) : entryFrame m #[(.ref o)] 1 = mkF m 0 #[.val (.ref o)] [] := by first | (simp [entryFrame, mkF, argsToLocals, Value.category]; done) | rfl
def Q_rm_fs (Z : State) (o : Addr) (li : Addr) (mA : Addr) (mL : Addr) (mR : Addr) (h0 : Heap) (n0 : Nat) (v : Option Value) (h : Heap) (L : List Loc) : Prop := ∃ (u : Addr), v = some (.ref u) ∧ Fr n0 L ∧ Keep h0 h [] ∧ h0.size ≤ u ∧ Exa Z h u "java/util/Collections$UnmodifiableRandomAccessList" ∧ Fld Z h u "java/util/Collections$UnmodifiableCollection" "c" "Ljava/util/Collection;" (.ref li) ∧ Fld Z h u "java/util/Collections$UnmodifiableList" "list" "Ljava/util/List;" (.ref li)
theorem own_d21_0 : decode prog_19_method_4_code 0 = .ok (.aload_n 0, 1) := by decide +kernel
theorem own_d21_1 : decode prog_19_method_4_code 1 = .ok (.getfield 10, 3) := by decide +kernel
theorem own_d21_4 : decode prog_19_method_4_code 4 = .ok (.invokestatic 38, 3) := by decide +kernel
theorem own_pd9 : parseMethodDescriptor "(Ljava/util/List;)Ljava/util/List;" = some ⟨[(.object "java/util/List")], some (.object "java/util/List")⟩ := by decide +kernel
theorem own_d21_7 : decode prog_19_method_4_code 7 = .ok (.areturn, 1) := by decide +kernel
set_option maxRecDepth 65536 in
set_option maxHeartbeats 40000000 in
theorem rm_fs (l : Launch) (Z : State) (a0 : Array Value) (hw : ∀ d ∈ tables_1, d.before a0 Z = true) (ws : List Jvm.Cond) (o : Addr) (li : Addr) (mA : Addr) (mL : Addr) (mR : Addr) (h0 : Heap) (n0 : Nat) (Z0 : n0 ≤ h0.size) (F0 : Fld Z h0 o "com/example/measured_reasoner/measuredreasoner/Summary" "fields" "Ljava/util/List;" (.ref li)) (E1 : Exa Z h0 li "java/util/ArrayList") (M1 : own_Mi Z "java/util/ArrayList" mA) (M2 : own_Mi Z "java/util/Collections$UnmodifiableList" mL) (M3 : own_Mi Z "java/util/Collections$UnmodifiableRandomAccessList" mR) (nAL : mA ≠ mL) (nAR : mA ≠ mR) :
    MetFree l (⟨"com/example/measured_reasoner/measuredreasoner/Summary", "fields", "()Ljava/util/List;"⟩ : MethodName) (head1 (Jvm.Cond.code (⟨"com/example/measured_reasoner/measuredreasoner/Summary", "fields", "()Ljava/util/List;"⟩ : MethodName) prog_19_method_4_code 1 (some (.object "java/util/List")) :: ws) ({ frames := 5, cells := 1, slots := 2, locals := 75 } : Room)) (fun aa U => aa = #[(.ref o)] ∧ Z.Warmed39 U.vm ∧ U.heap = h0) (fun _ _ _ _ _ => True) (fun _ U ou U' => ∃ v L, ou = .returned v ∧ Q_rm_fs Z o li mA mL mR h0 n0 v U'.heap L ∧ FrameEnd U ou U' L ({ frames := 5, cells := 1, slots := 2, locals := 75 } : Room).cells ({ frames := 5, cells := 1, slots := 2, locals := 75 } : Room).slots) := by
  refine MetFree.of_bodySF (plainFor_of_name own_pn5) hisR ?_
  intro p e s m args below meth c s₁ Bd hml0 hP hK
  obtain ⟨rfl, hZ, hh⟩ := hP
  have hx := Bd.exec
  have hby := Bd.bytes
  have hml : c.maxLocals = 1 := hml0
  have hown : s.vm.findClass "com/example/measured_reasoner/measuredreasoner/Summary" = some m.cls := findClass_of_methodNamed Bd.named
  have hnm := (name_of_methodNamed Bd.named Bd.method).1
  have X0 : Stand p l e ({ frames := 5, cells := 1, slots := 2, locals := 75 } : Room) s m #[(.ref o)] below meth c s₁ [] 0 0 := Stand.of_body Bd
  have e0 : s₁.heap = h0 := by rw [← hh, Bd.state]; rfl
  have N0 := Fr.nil n0
  have K0 := Keep.refl h0 []
  show own_Go p e below (fun o u L => FrameEnd s o u L ({ frames := 5, cells := 1, slots := 2, locals := 75 } : Room).cells ({ frames := 5, cells := 1, slots := 2, locals := 75 } : Room).slots) (Q_rm_fs Z o li mA mL mR h0 n0) (s₁.setTop (entryFrame m #[(.ref o)] 1))
  rw [own_ef_rm_fs m o]
  show own_Go _ _ _ _ _ (State.setTop _ (mkF _ 0 #[.val (.ref o)] []))
  refine own_aloadN X0 hx 1 rfl (hb hby own_d21_0) rfl rfl ?_
  refine own_getF X0 hx hZ (host := "") hown (Or.inl (own_hw hw 58 rfl)) Via.refl e0 F0 4 rfl (hb hby own_d21_1) fun T548 X548 e548 => ?_
  refine own_callS X548 hx hZ (y := (⟨"java/util/Collections", "unmodifiableList", "(Ljava/util/List;)Ljava/util/List;"⟩ : MethodName)) hown (own_hw hw 144 rfl) (own_hw hw 145 rfl) (by decide) (rm_un l Z a0 hw [] li mA mL mR h0 n0 Z0 E1 M1 M2 M3 nAL nAR) (own_hw hw 147 rfl) (own_hw hw 146 rfl) (by decide) e548 (by rw [hml]; rfl) [(.ref li)] 0 (by decide) (Nat.le_of_eq rfl) (by decide) (by decide) (lenOf own_pd9 rfl) rfl rfl 7 rfl (hb hby own_d21_4) fun v549 T549 Lc549 X549 hQ549 => ?_
  obtain ⟨u_549, rfl, Nq549, Kq549, sd0_549, f550, f551, f552⟩ := hQ549
  have N553 := Fr.app N0 Nq549
  have ne554 : o ≠ u_549 := Nat.ne_of_lt (Nat.lt_of_lt_of_le F0.lt sd0_549)
  have ne555 : li ≠ u_549 := Nat.ne_of_lt (Nat.lt_of_lt_of_le E1.lt sd0_549)
  have ge556 : n0 ≤ u_549 := Nat.le_trans Z0 sd0_549
  have sz557 : h0.size ≤ u_549 := Nat.le_trans K0.1 sd0_549
  have f558 := F0.keep Kq549 nin0
  have f559 := E1.keep Kq549
  have z560 := Nat.le_trans Z0 Kq549.1
  have K561 := K0.trans Kq549 all0
  show own_Go _ _ _ _ _ (State.setTop _ (mkF _ 7 _ [(.ref u_549)]))
  refine own_ret X549 (some (.ref u_549)) (fun h => by rw [Bd.returns] at h; cases h) Bd.notSynchronized (by decide) (by decide) ?_ (fun fs hr => own_retR X549 hx Bd.returns rfl rfl (hb hby own_d21_7) hr)
  show Q_rm_fs Z o li mA mL mR h0 n0 _ T549.heap _
  exact ⟨u_549, rfl, N553, K561, sz557, f550, f551, f552⟩
theorem own_ef_rm_size (m : MethodId) (o : Addr) : entryFrame m #[(.ref o)] 1 = mkF m 0 #[.val (.ref o)] [] := by first | (simp [entryFrame, mkF, argsToLocals, Value.category]; done) | rfl
def Q_rm_size (Z : State) (o : Addr) (sz : Int32) (h0 : Heap) (n0 : Nat) (v : Option Value) (h : Heap) (L : List Loc) : Prop := v = some (.int sz) ∧ Fr n0 L ∧ h = h0
theorem own_d27_0 : decode jdk_38_method_8_code 0 = .ok (.aload_n 0, 1) := by decide +kernel
theorem own_d27_1 : decode jdk_38_method_8_code 1 = .ok (.getfield 48, 3) := by decide +kernel
theorem own_d27_4 : decode jdk_38_method_8_code 4 = .ok (.ireturn, 1) := by decide +kernel
set_option maxRecDepth 65536 in
set_option maxHeartbeats 40000000 in
theorem rm_size (l : Launch) (Z : State) (a0 : Array Value) (hw : ∀ d ∈ tables_1, d.before a0 Z = true) (ws : List Jvm.Cond) (o : Addr) (sz : Int32) (h0 : Heap) (n0 : Nat) (Z0 : n0 ≤ h0.size) (F1 : Fld Z h0 o "java/util/ArrayList" "size" "I" (.int sz)) :
    MetFree l (⟨"java/util/ArrayList", "size", "()I"⟩ : MethodName) (head1 (Jvm.Cond.code (⟨"java/util/ArrayList", "size", "()I"⟩ : MethodName) jdk_38_method_8_code 1 (some .int) :: ws) ({ frames := 0, cells := 0, slots := 0, locals := 0 } : Room)) (fun aa U => aa = #[(.ref o)] ∧ Z.Warmed39 U.vm ∧ U.heap = h0) (fun _ _ _ _ _ => True) (fun _ U ou U' => ∃ v L, ou = .returned v ∧ Q_rm_size Z o sz h0 n0 v U'.heap L ∧ FrameEnd U ou U' L ({ frames := 0, cells := 0, slots := 0, locals := 0 } : Room).cells ({ frames := 0, cells := 0, slots := 0, locals := 0 } : Room).slots) := by
  refine MetFree.of_bodySF (plainFor_of_name own_pn4) hisR ?_
  intro p e s m args below meth c s₁ Bd hml0 hP hK
  obtain ⟨rfl, hZ, hh⟩ := hP
  have hx := Bd.exec
  have hby := Bd.bytes
  have hml : c.maxLocals = 1 := hml0
  have hown : s.vm.findClass "java/util/ArrayList" = some m.cls := findClass_of_methodNamed Bd.named
  have hnm := (name_of_methodNamed Bd.named Bd.method).1
  have X0 : Stand p l e ({ frames := 0, cells := 0, slots := 0, locals := 0 } : Room) s m #[(.ref o)] below meth c s₁ [] 0 0 := Stand.of_body Bd
  have e0 : s₁.heap = h0 := by rw [← hh, Bd.state]; rfl
  have N0 := Fr.nil n0
  show own_Go p e below (fun o u L => FrameEnd s o u L ({ frames := 0, cells := 0, slots := 0, locals := 0 } : Room).cells ({ frames := 0, cells := 0, slots := 0, locals := 0 } : Room).slots) (Q_rm_size Z o sz h0 n0) (s₁.setTop (entryFrame m #[(.ref o)] 1))
  rw [own_ef_rm_size m o]
  show own_Go _ _ _ _ _ (State.setTop _ (mkF _ 0 #[.val (.ref o)] []))
  refine own_aloadN X0 hx 1 rfl (hb hby own_d27_0) rfl rfl ?_
  refine own_getF X0 hx hZ (host := "") hown (Or.inl (own_hw hw 100 rfl)) Via.refl e0 F1 4 rfl (hb hby own_d27_1) fun T562 X562 e562 => ?_
  refine own_ret X562 (some (.int sz)) (fun h => by rw [Bd.returns] at h; cases h) Bd.notSynchronized (by decide) (by decide) ?_ (fun fs hr => own_retI X562 hx Bd.returns (hb hby own_d27_4) hr)
  show Q_rm_size Z o sz h0 n0 _ T562.heap _
  rw [e562]
  exact ⟨rfl, N0, rfl⟩
theorem own_ef_rm_usize (m : MethodId) (o : Addr) : entryFrame m #[(.ref o)] 1 = mkF m 0 #[.val (.ref o)] [] := by first | (simp [entryFrame, mkF, argsToLocals, Value.category]; done) | rfl
def Q_rm_usize (Z : State) (o : Addr) (li : Addr) (sz : Int32) (h0 : Heap) (n0 : Nat) (v : Option Value) (h : Heap) (L : List Loc) : Prop := v = some (.int sz) ∧ Fr n0 L ∧ h = h0
theorem own_d26_0 : decode jdk_119_method_2_code 0 = .ok (.aload_n 0, 1) := by decide +kernel
theorem own_d26_1 : decode jdk_119_method_2_code 1 = .ok (.getfield 10, 3) := by decide +kernel
theorem own_d26_4 : decode jdk_119_method_2_code 4 = .ok (.invokeinterface 16 1, 5) := by decide +kernel
theorem own_pd10 : parseMethodDescriptor "()I" = some ⟨[], some .int⟩ := by decide +kernel
theorem own_d26_9 : decode jdk_119_method_2_code 9 = .ok (.ireturn, 1) := by decide +kernel
set_option maxRecDepth 65536 in
set_option maxHeartbeats 40000000 in
theorem rm_usize (l : Launch) (Z : State) (a0 : Array Value) (hw : ∀ d ∈ tables_1, d.before a0 Z = true) (ws : List Jvm.Cond) (o : Addr) (li : Addr) (sz : Int32) (h0 : Heap) (n0 : Nat) (Z0 : n0 ≤ h0.size) (F0 : Fld Z h0 o "java/util/Collections$UnmodifiableCollection" "c" "Ljava/util/Collection;" (.ref li)) (E1 : Exa Z h0 li "java/util/ArrayList") (F1 : Fld Z h0 li "java/util/ArrayList" "size" "I" (.int sz)) :
    MetFree l (⟨"java/util/Collections$UnmodifiableCollection", "size", "()I"⟩ : MethodName) (head1 (Jvm.Cond.code (⟨"java/util/Collections$UnmodifiableCollection", "size", "()I"⟩ : MethodName) jdk_119_method_2_code 1 (some .int) :: ws) ({ frames := 1, cells := 0, slots := 0, locals := 12 } : Room)) (fun aa U => aa = #[(.ref o)] ∧ Z.Warmed39 U.vm ∧ U.heap = h0) (fun _ _ _ _ _ => True) (fun _ U ou U' => ∃ v L, ou = .returned v ∧ Q_rm_usize Z o li sz h0 n0 v U'.heap L ∧ FrameEnd U ou U' L ({ frames := 1, cells := 0, slots := 0, locals := 12 } : Room).cells ({ frames := 1, cells := 0, slots := 0, locals := 12 } : Room).slots) := by
  refine MetFree.of_bodySF (plainFor_of_name own_pn9) hisR ?_
  intro p e s m args below meth c s₁ Bd hml0 hP hK
  obtain ⟨rfl, hZ, hh⟩ := hP
  have hx := Bd.exec
  have hby := Bd.bytes
  have hml : c.maxLocals = 1 := hml0
  have hown : s.vm.findClass "java/util/Collections$UnmodifiableCollection" = some m.cls := findClass_of_methodNamed Bd.named
  have hnm := (name_of_methodNamed Bd.named Bd.method).1
  have X0 : Stand p l e ({ frames := 1, cells := 0, slots := 0, locals := 12 } : Room) s m #[(.ref o)] below meth c s₁ [] 0 0 := Stand.of_body Bd
  have e0 : s₁.heap = h0 := by rw [← hh, Bd.state]; rfl
  have N0 := Fr.nil n0
  show own_Go p e below (fun o u L => FrameEnd s o u L ({ frames := 1, cells := 0, slots := 0, locals := 12 } : Room).cells ({ frames := 1, cells := 0, slots := 0, locals := 12 } : Room).slots) (Q_rm_usize Z o li sz h0 n0) (s₁.setTop (entryFrame m #[(.ref o)] 1))
  rw [own_ef_rm_usize m o]
  show own_Go _ _ _ _ _ (State.setTop _ (mkF _ 0 #[.val (.ref o)] []))
  refine own_aloadN X0 hx 1 rfl (hb hby own_d26_0) rfl rfl ?_
  refine own_getF X0 hx hZ (host := "") hown (Or.inl (own_hw hw 182 rfl)) Via.refl e0 F0 4 rfl (hb hby own_d26_1) fun T563 X563 e563 => ?_
  refine own_iface X563 hx hZ (C := "java/util/ArrayList") (xi := (⟨"java/util/Collection", "size", "()I"⟩ : MethodName)) (y := (⟨"java/util/ArrayList", "size", "()I"⟩ : MethodName)) hown (own_hw hw 195 rfl) (own_hw hw 196 rfl) (own_hw hw 197 rfl) rfl (own_hw hw 198 rfl) (own_hw hw 199 rfl) (own_hw hw 200 rfl) (own_hw hw 201 rfl) (own_hw hw 202 rfl) (a := li) E1 (by decide) (rm_size l Z a0 hw [] li sz h0 n0 Z0 F1) (own_hw hw 203 rfl) (own_hw hw 36 rfl) (by decide) e563 (by rw [hml]; rfl) [] 0 (by decide) (Nat.le_of_eq rfl) (by decide) (by decide) (lenOf own_pd10 rfl) rfl rfl 9 rfl (hb hby own_d26_4) fun v564 T564 Lc564 X564 hQ564 => ?_
  obtain ⟨rfl, Nq564, e564⟩ := hQ564
  have N565 := Fr.app N0 Nq564
  show own_Go _ _ _ _ _ (State.setTop _ (mkF _ 9 _ [(.int sz)]))
  refine own_ret X564 (some (.int sz)) (fun h => by rw [Bd.returns] at h; cases h) Bd.notSynchronized (by decide) (by decide) ?_ (fun fs hr => own_retI X564 hx Bd.returns (hb hby own_d26_9) hr)
  show Q_rm_usize Z o li sz h0 n0 _ T564.heap _
  rw [e564]
  exact ⟨rfl, N565, rfl⟩
theorem own_pn13 : plainName "jdk/internal/util/Preconditions" = true := by first | (simp [plainName, overriddenIn]; done) | decide +kernel
theorem own_ef_rm_pci (m : MethodId) (i : Int32) (sz : Int32) : entryFrame m #[(.int i), (.int sz), .null] 3 = mkF m 0 #[.val (.int i), .val (.int sz), .val .null] [] := by first | (simp [entryFrame, mkF, argsToLocals, Value.category]; done) | rfl
def Q_rm_pci (Z : State) (i : Int32) (sz : Int32) (h0 : Heap) (n0 : Nat) (v : Option Value) (h : Heap) (L : List Loc) : Prop := v = some (.int i) ∧ Fr n0 L ∧ h = h0
theorem own_d31_0 : decode jdk_41_method_11_code 0 = .ok (.iload_n 0, 1) := by decide +kernel
theorem own_d31_1 : decode jdk_41_method_11_code 1 = .ok (.ifCond .lt 8, 3) := by decide +kernel
theorem own_d31_4 : decode jdk_41_method_11_code 4 = .ok (.iload_n 0, 1) := by decide +kernel
theorem own_d31_5 : decode jdk_41_method_11_code 5 = .ok (.iload_n 1, 1) := by decide +kernel
theorem own_d31_6 : decode jdk_41_method_11_code 6 = .ok (.if_icmp .lt 10, 3) := by decide +kernel
theorem own_d31_16 : decode jdk_41_method_11_code 16 = .ok (.iload_n 0, 1) := by decide +kernel
theorem own_d31_17 : decode jdk_41_method_11_code 17 = .ok (.ireturn, 1) := by decide +kernel
set_option maxRecDepth 65536 in
set_option maxHeartbeats 40000000 in
theorem rm_pci (l : Launch) (Z : State) (a0 : Array Value) (hw : ∀ d ∈ tables_1, d.before a0 Z = true) (ws : List Jvm.Cond) (i : Int32) (sz : Int32) (h0 : Heap) (n0 : Nat) (Z0 : n0 ≤ h0.size) (h1 : ¬ i < 0) (h2 : i < sz) :
    MetFree l (⟨"jdk/internal/util/Preconditions", "checkIndex", "(IILjava/util/function/BiFunction;)I"⟩ : MethodName) (head1 (Jvm.Cond.code (⟨"jdk/internal/util/Preconditions", "checkIndex", "(IILjava/util/function/BiFunction;)I"⟩ : MethodName) jdk_41_method_11_code 3 (some .int) :: ws) ({ frames := 0, cells := 0, slots := 0, locals := 0 } : Room)) (fun aa U => aa = #[(.int i), (.int sz), .null] ∧ Z.Warmed39 U.vm ∧ U.heap = h0) (fun _ _ _ _ _ => True) (fun _ U ou U' => ∃ v L, ou = .returned v ∧ Q_rm_pci Z i sz h0 n0 v U'.heap L ∧ FrameEnd U ou U' L ({ frames := 0, cells := 0, slots := 0, locals := 0 } : Room).cells ({ frames := 0, cells := 0, slots := 0, locals := 0 } : Room).slots) := by
  refine MetFree.of_bodySF (plainFor_of_name own_pn13) hisR ?_
  intro p e s m args below meth c s₁ Bd hml0 hP hK
  obtain ⟨rfl, hZ, hh⟩ := hP
  have hx := Bd.exec
  have hby := Bd.bytes
  have hml : c.maxLocals = 3 := hml0
  have hown : s.vm.findClass "jdk/internal/util/Preconditions" = some m.cls := findClass_of_methodNamed Bd.named
  have hnm := (name_of_methodNamed Bd.named Bd.method).1
  have X0 : Stand p l e ({ frames := 0, cells := 0, slots := 0, locals := 0 } : Room) s m #[(.int i), (.int sz), .null] below meth c s₁ [] 0 0 := Stand.of_body Bd
  have e0 : s₁.heap = h0 := by rw [← hh, Bd.state]; rfl
  have N0 := Fr.nil n0
  show own_Go p e below (fun o u L => FrameEnd s o u L ({ frames := 0, cells := 0, slots := 0, locals := 0 } : Room).cells ({ frames := 0, cells := 0, slots := 0, locals := 0 } : Room).slots) (Q_rm_pci Z i sz h0 n0) (s₁.setTop (entryFrame m #[(.int i), (.int sz), .null] 3))
  rw [own_ef_rm_pci m i sz]
  show own_Go _ _ _ _ _ (State.setTop _ (mkF _ 0 #[.val (.int i), .val (.int sz), .val .null] []))
  refine own_iloadN X0 hx 1 rfl (hb hby own_d31_0) rfl ?_
  refine own_ifNo X0 hx 4 rfl (hb hby own_d31_1) ((if0 _ _).trans (flt h1).1) ?_
  refine own_iloadN X0 hx 5 rfl (hb hby own_d31_4) rfl ?_
  refine own_iloadN X0 hx 6 rfl (hb hby own_d31_5) rfl ?_
  refine own_icmpYes X0 hx 16 (hb hby own_d31_6) (tlt h2).1 (by decide) rfl ?_
  refine own_iloadN X0 hx 17 rfl (hb hby own_d31_16) rfl ?_
  refine own_ret X0 (some (.int i)) (fun h => by rw [Bd.returns] at h; cases h) Bd.notSynchronized (by decide) (by decide) ?_ (fun fs hr => own_retI X0 hx Bd.returns (hb hby own_d31_17) hr)
  show Q_rm_pci Z i sz h0 n0 _ s₁.heap _
  rw [e0]
  exact ⟨rfl, N0, rfl⟩
theorem own_pn14 : plainName "java/util/Objects" = true := by first | (simp [plainName, overriddenIn]; done) | decide +kernel
theorem own_ef_rm_ci (m : MethodId) (i : Int32) (sz : Int32) : entryFrame m #[(.int i), (.int sz)] 2 = mkF m 0 #[.val (.int i), .val (.int sz)] [] := by first | (simp [entryFrame, mkF, argsToLocals, Value.category]; done) | rfl
def Q_rm_ci (Z : State) (i : Int32) (sz : Int32) (h0 : Heap) (n0 : Nat) (v : Option Value) (h : Heap) (L : List Loc) : Prop := v = some (.int i) ∧ Fr n0 L ∧ h = h0
theorem own_d30_0 : decode jdk_31_method_17_code 0 = .ok (.iload_n 0, 1) := by decide +kernel
theorem own_d30_1 : decode jdk_31_method_17_code 1 = .ok (.iload_n 1, 1) := by decide +kernel
theorem own_d30_2 : decode jdk_31_method_17_code 2 = .ok (.aconst_null, 1) := by decide +kernel
theorem own_d30_3 : decode jdk_31_method_17_code 3 = .ok (.invokestatic 105, 3) := by decide +kernel
theorem own_pd11 : parseMethodDescriptor "(IILjava/util/function/BiFunction;)I" = some ⟨[.int, .int, (.object "java/util/function/BiFunction")], some .int⟩ := by decide +kernel
theorem own_d30_6 : decode jdk_31_method_17_code 6 = .ok (.ireturn, 1) := by decide +kernel
set_option maxRecDepth 65536 in
set_option maxHeartbeats 40000000 in
theorem rm_ci (l : Launch) (Z : State) (a0 : Array Value) (hw : ∀ d ∈ tables_1, d.before a0 Z = true) (ws : List Jvm.Cond) (i : Int32) (sz : Int32) (h0 : Heap) (n0 : Nat) (Z0 : n0 ≤ h0.size) (h1 : ¬ i < 0) (h2 : i < sz) :
    MetFree l (⟨"java/util/Objects", "checkIndex", "(II)I"⟩ : MethodName) (head1 (Jvm.Cond.code (⟨"java/util/Objects", "checkIndex", "(II)I"⟩ : MethodName) jdk_31_method_17_code 2 (some .int) :: ws) ({ frames := 1, cells := 0, slots := 0, locals := 14 } : Room)) (fun aa U => aa = #[(.int i), (.int sz)] ∧ Z.Warmed39 U.vm ∧ U.heap = h0) (fun _ _ _ _ _ => True) (fun _ U ou U' => ∃ v L, ou = .returned v ∧ Q_rm_ci Z i sz h0 n0 v U'.heap L ∧ FrameEnd U ou U' L ({ frames := 1, cells := 0, slots := 0, locals := 14 } : Room).cells ({ frames := 1, cells := 0, slots := 0, locals := 14 } : Room).slots) := by
  refine MetFree.of_bodySF (plainFor_of_name own_pn14) hisR ?_
  intro p e s m args below meth c s₁ Bd hml0 hP hK
  obtain ⟨rfl, hZ, hh⟩ := hP
  have hx := Bd.exec
  have hby := Bd.bytes
  have hml : c.maxLocals = 2 := hml0
  have hown : s.vm.findClass "java/util/Objects" = some m.cls := findClass_of_methodNamed Bd.named
  have hnm := (name_of_methodNamed Bd.named Bd.method).1
  have X0 : Stand p l e ({ frames := 1, cells := 0, slots := 0, locals := 14 } : Room) s m #[(.int i), (.int sz)] below meth c s₁ [] 0 0 := Stand.of_body Bd
  have e0 : s₁.heap = h0 := by rw [← hh, Bd.state]; rfl
  have N0 := Fr.nil n0
  show own_Go p e below (fun o u L => FrameEnd s o u L ({ frames := 1, cells := 0, slots := 0, locals := 14 } : Room).cells ({ frames := 1, cells := 0, slots := 0, locals := 14 } : Room).slots) (Q_rm_ci Z i sz h0 n0) (s₁.setTop (entryFrame m #[(.int i), (.int sz)] 2))
  rw [own_ef_rm_ci m i sz]
  show own_Go _ _ _ _ _ (State.setTop _ (mkF _ 0 #[.val (.int i), .val (.int sz)] []))
  refine own_iloadN X0 hx 1 rfl (hb hby own_d30_0) rfl ?_
  refine own_iloadN X0 hx 2 rfl (hb hby own_d30_1) rfl ?_
  refine own_aconst_null X0 hx 3 rfl (hb hby own_d30_2) ?_
  refine own_callS X0 hx hZ (y := (⟨"jdk/internal/util/Preconditions", "checkIndex", "(IILjava/util/function/BiFunction;)I"⟩ : MethodName)) hown (own_hw hw 222 rfl) (own_hw hw 223 rfl) (by decide) (rm_pci l Z a0 hw [] i sz h0 n0 Z0 h1 h2) (own_hw hw 225 rfl) (own_hw hw 224 rfl) (by decide) e0 (by rw [hml]; rfl) [(.int i), (.int sz), .null] 0 (by decide) (Nat.le_of_eq rfl) (by decide) (by decide) (lenOf own_pd11 rfl) rfl rfl 6 rfl (hb hby own_d30_3) fun v566 T566 Lc566 X566 hQ566 => ?_
  obtain ⟨rfl, Nq566, e566⟩ := hQ566
  have N567 := Fr.app N0 Nq566
  show own_Go _ _ _ _ _ (State.setTop _ (mkF _ 6 _ [(.int i)]))
  refine own_ret X566 (some (.int i)) (fun h => by rw [Bd.returns] at h; cases h) Bd.notSynchronized (by decide) (by decide) ?_ (fun fs hr => own_retI X566 hx Bd.returns (hb hby own_d30_6) hr)
  show Q_rm_ci Z i sz h0 n0 _ T566.heap _
  rw [e566]
  exact ⟨rfl, N567, rfl⟩
theorem own_ef_rm_el (m : MethodId) (o : Addr) (i : Int32) : entryFrame m #[(.ref o), (.int i)] 2 = mkF m 0 #[.val (.ref o), .val (.int i)] [] := by first | (simp [entryFrame, mkF, argsToLocals, Value.category]; done) | rfl
def Q_rm_el (Z : State) (o : Addr) (i : Int32) (a : Addr) (ka : ClassId) (vs : List Value) (y : Addr) (h0 : Heap) (n0 : Nat) (v : Option Value) (h : Heap) (L : List Loc) : Prop := v = some (.ref y) ∧ Fr n0 L ∧ h = h0
theorem own_d32_0 : decode jdk_38_method_18_code 0 = .ok (.aload_n 0, 1) := by decide +kernel
theorem own_d32_1 : decode jdk_38_method_18_code 1 = .ok (.getfield 9, 3) := by decide +kernel
theorem own_d32_4 : decode jdk_38_method_18_code 4 = .ok (.iload_n 1, 1) := by decide +kernel
theorem own_d32_5 : decode jdk_38_method_18_code 5 = .ok (.aaload, 1) := by decide +kernel
theorem own_d32_6 : decode jdk_38_method_18_code 6 = .ok (.areturn, 1) := by decide +kernel
set_option maxRecDepth 65536 in
set_option maxHeartbeats 40000000 in
theorem rm_el (l : Launch) (Z : State) (a0 : Array Value) (hw : ∀ d ∈ tables_1, d.before a0 Z = true) (ws : List Jvm.Cond) (o : Addr) (i : Int32) (a : Addr) (ka : ClassId) (vs : List Value) (y : Addr) (h0 : Heap) (n0 : Nat) (Z0 : n0 ≤ h0.size) (F1 : Fld Z h0 o "java/util/ArrayList" "elementData" "[Ljava/lang/Object;" (.ref a)) (A1 : Arv Z h0 a ka (.object "java/lang/Object") (10 : Int32) vs .null) (inb : ¬ i < 0 ∧ i < (10 : Int32)) (hv : vs.getD i.toNatClampNeg .null = .ref y) :
    MetFree l (⟨"java/util/ArrayList", "elementData", "(I)Ljava/lang/Object;"⟩ : MethodName) (head1 (Jvm.Cond.code (⟨"java/util/ArrayList", "elementData", "(I)Ljava/lang/Object;"⟩ : MethodName) jdk_38_method_18_code 2 (some (.object "java/lang/Object")) :: ws) ({ frames := 0, cells := 0, slots := 0, locals := 0 } : Room)) (fun aa U => aa = #[(.ref o), (.int i)] ∧ Z.Warmed39 U.vm ∧ U.heap = h0) (fun _ _ _ _ _ => True) (fun _ U ou U' => ∃ v L, ou = .returned v ∧ Q_rm_el Z o i a ka vs y h0 n0 v U'.heap L ∧ FrameEnd U ou U' L ({ frames := 0, cells := 0, slots := 0, locals := 0 } : Room).cells ({ frames := 0, cells := 0, slots := 0, locals := 0 } : Room).slots) := by
  refine MetFree.of_bodySF (plainFor_of_name own_pn4) hisR ?_
  intro p e s m args below meth c s₁ Bd hml0 hP hK
  obtain ⟨rfl, hZ, hh⟩ := hP
  have hx := Bd.exec
  have hby := Bd.bytes
  have hml : c.maxLocals = 2 := hml0
  have hown : s.vm.findClass "java/util/ArrayList" = some m.cls := findClass_of_methodNamed Bd.named
  have hnm := (name_of_methodNamed Bd.named Bd.method).1
  have X0 : Stand p l e ({ frames := 0, cells := 0, slots := 0, locals := 0 } : Room) s m #[(.ref o), (.int i)] below meth c s₁ [] 0 0 := Stand.of_body Bd
  have e0 : s₁.heap = h0 := by rw [← hh, Bd.state]; rfl
  have N0 := Fr.nil n0
  show own_Go p e below (fun o u L => FrameEnd s o u L ({ frames := 0, cells := 0, slots := 0, locals := 0 } : Room).cells ({ frames := 0, cells := 0, slots := 0, locals := 0 } : Room).slots) (Q_rm_el Z o i a ka vs y h0 n0) (s₁.setTop (entryFrame m #[(.ref o), (.int i)] 2))
  rw [own_ef_rm_el m o i]
  show own_Go _ _ _ _ _ (State.setTop _ (mkF _ 0 #[.val (.ref o), .val (.int i)] []))
  refine own_aloadN X0 hx 1 rfl (hb hby own_d32_0) rfl rfl ?_
  refine own_getF X0 hx hZ (host := "") hown (Or.inl (own_hw hw 56 rfl)) Via.refl e0 F1 4 rfl (hb hby own_d32_1) fun T568 X568 e568 => ?_
  refine own_iloadN X568 hx 5 rfl (hb hby own_d32_4) rfl ?_
  refine own_ldR X568 hx hZ e568 A1 rfl inb y hv 6 rfl (hb hby own_d32_5) ?_
  refine own_ret X568 (some (.ref y)) (fun h => by rw [Bd.returns] at h; cases h) Bd.notSynchronized (by decide) (by decide) ?_ (fun fs hr => own_retR X568 hx Bd.returns rfl rfl (hb hby own_d32_6) hr)
  show Q_rm_el Z o i a ka vs y h0 n0 _ T568.heap _
  rw [e568]
  exact ⟨rfl, N0, rfl⟩
theorem own_ef_rm_get (m : MethodId) (o : Addr) (i : Int32) : entryFrame m #[(.ref o), (.int i)] 2 = mkF m 0 #[.val (.ref o), .val (.int i)] [] := by first | (simp [entryFrame, mkF, argsToLocals, Value.category]; done) | rfl
def Q_rm_get (Z : State) (o : Addr) (i : Int32) (sz : Int32) (a : Addr) (ka : ClassId) (vs : List Value) (y : Addr) (h0 : Heap) (n0 : Nat) (v : Option Value) (h : Heap) (L : List Loc) : Prop := v = some (.ref y) ∧ Fr n0 L ∧ h = h0
theorem own_d29_0 : decode jdk_38_method_20_code 0 = .ok (.iload_n 1, 1) := by decide +kernel
theorem own_d29_1 : decode jdk_38_method_20_code 1 = .ok (.aload_n 0, 1) := by decide +kernel
theorem own_d29_2 : decode jdk_38_method_20_code 2 = .ok (.getfield 48, 3) := by decide +kernel
theorem own_d29_5 : decode jdk_38_method_20_code 5 = .ok (.invokestatic 118, 3) := by decide +kernel
theorem own_d29_8 : decode jdk_38_method_20_code 8 = .ok (.pop, 1) := by decide +kernel
theorem own_d29_9 : decode jdk_38_method_20_code 9 = .ok (.aload_n 0, 1) := by decide +kernel
theorem own_d29_10 : decode jdk_38_method_20_code 10 = .ok (.iload_n 1, 1) := by decide +kernel
theorem own_d29_11 : decode jdk_38_method_20_code 11 = .ok (.invokevirtual 123, 3) := by decide +kernel
theorem own_pd12 : parseMethodDescriptor "(I)Ljava/lang/Object;" = some ⟨[.int], some (.object "java/lang/Object")⟩ := by decide +kernel
theorem own_d29_14 : decode jdk_38_method_20_code 14 = .ok (.areturn, 1) := by decide +kernel
set_option maxRecDepth 65536 in
set_option maxHeartbeats 40000000 in
theorem rm_get (l : Launch) (Z : State) (a0 : Array Value) (hw : ∀ d ∈ tables_1, d.before a0 Z = true) (ws : List Jvm.Cond) (o : Addr) (i : Int32) (sz : Int32) (a : Addr) (ka : ClassId) (vs : List Value) (y : Addr) (h0 : Heap) (n0 : Nat) (Z0 : n0 ≤ h0.size) (E1 : Exa Z h0 o "java/util/ArrayList") (F1 : Fld Z h0 o "java/util/ArrayList" "elementData" "[Ljava/lang/Object;" (.ref a)) (F2 : Fld Z h0 o "java/util/ArrayList" "size" "I" (.int sz)) (A1 : Arv Z h0 a ka (.object "java/lang/Object") (10 : Int32) vs .null) (h1 : ¬ i < 0) (h2 : i < sz) (inb : ¬ i < 0 ∧ i < (10 : Int32)) (hv : vs.getD i.toNatClampNeg .null = .ref y) :
    MetFree l (⟨"java/util/ArrayList", "get", "(I)Ljava/lang/Object;"⟩ : MethodName) (head1 (Jvm.Cond.code (⟨"java/util/ArrayList", "get", "(I)Ljava/lang/Object;"⟩ : MethodName) jdk_38_method_20_code 2 (some (.object "java/lang/Object")) :: ws) ({ frames := 2, cells := 0, slots := 0, locals := 30 } : Room)) (fun aa U => aa = #[(.ref o), (.int i)] ∧ Z.Warmed39 U.vm ∧ U.heap = h0) (fun _ _ _ _ _ => True) (fun _ U ou U' => ∃ v L, ou = .returned v ∧ Q_rm_get Z o i sz a ka vs y h0 n0 v U'.heap L ∧ FrameEnd U ou U' L ({ frames := 2, cells := 0, slots := 0, locals := 30 } : Room).cells ({ frames := 2, cells := 0, slots := 0, locals := 30 } : Room).slots) := by
  refine MetFree.of_bodySF (plainFor_of_name own_pn4) hisR ?_
  intro p e s m args below meth c s₁ Bd hml0 hP hK
  obtain ⟨rfl, hZ, hh⟩ := hP
  have hx := Bd.exec
  have hby := Bd.bytes
  have hml : c.maxLocals = 2 := hml0
  have hown : s.vm.findClass "java/util/ArrayList" = some m.cls := findClass_of_methodNamed Bd.named
  have hnm := (name_of_methodNamed Bd.named Bd.method).1
  have X0 : Stand p l e ({ frames := 2, cells := 0, slots := 0, locals := 30 } : Room) s m #[(.ref o), (.int i)] below meth c s₁ [] 0 0 := Stand.of_body Bd
  have e0 : s₁.heap = h0 := by rw [← hh, Bd.state]; rfl
  have N0 := Fr.nil n0
  show own_Go p e below (fun o u L => FrameEnd s o u L ({ frames := 2, cells := 0, slots := 0, locals := 30 } : Room).cells ({ frames := 2, cells := 0, slots := 0, locals := 30 } : Room).slots) (Q_rm_get Z o i sz a ka vs y h0 n0) (s₁.setTop (entryFrame m #[(.ref o), (.int i)] 2))
  rw [own_ef_rm_get m o i]
  show own_Go _ _ _ _ _ (State.setTop _ (mkF _ 0 #[.val (.ref o), .val (.int i)] []))
  refine own_iloadN X0 hx 1 rfl (hb hby own_d29_0) rfl ?_
  refine own_aloadN X0 hx 2 rfl (hb hby own_d29_1) rfl rfl ?_
  refine own_getF X0 hx hZ (host := "") hown (Or.inl (own_hw hw 100 rfl)) Via.refl e0 F2 5 rfl (hb hby own_d29_2) fun T569 X569 e569 => ?_
  refine own_callS X569 hx hZ (y := (⟨"java/util/Objects", "checkIndex", "(II)I"⟩ : MethodName)) hown (own_hw hw 218 rfl) (own_hw hw 219 rfl) (by decide) (rm_ci l Z a0 hw [] i sz h0 n0 Z0 h1 h2) (own_hw hw 221 rfl) (own_hw hw 220 rfl) (by decide) e569 (by rw [hml]; rfl) [(.int i), (.int sz)] 0 (by decide) (Nat.le_of_eq rfl) (by decide) (by decide) (lenOf own_pd1 rfl) rfl rfl 8 rfl (hb hby own_d29_5) fun v570 T570 Lc570 X570 hQ570 => ?_
  obtain ⟨rfl, Nq570, e570⟩ := hQ570
  have N571 := Fr.app N0 Nq570
  show own_Go _ _ _ _ _ (State.setTop _ (mkF _ 8 _ [(.int i)]))
  refine own_pop X570 hx 9 rfl (hb hby own_d29_8) rfl ?_
  refine own_aloadN X570 hx 10 rfl (hb hby own_d29_9) rfl rfl ?_
  refine own_iloadN X570 hx 11 rfl (hb hby own_d29_10) rfl ?_
  refine own_virtual X570 hx hZ (y := (⟨"java/util/ArrayList", "elementData", "(I)Ljava/lang/Object;"⟩ : MethodName)) (z := (⟨"java/util/ArrayList", "elementData", "(I)Ljava/lang/Object;"⟩ : MethodName)) hown (own_hw hw 226 rfl) (own_hw hw 227 rfl) (own_hw hw 229 rfl) (own_hw hw 228 rfl) rfl (a := o) E1 (by decide) (rm_el l Z a0 hw [] o i a ka vs y h0 n0 Z0 F1 A1 inb hv) (own_hw hw 230 rfl) (own_hw hw 36 rfl) (by decide) e570 (by rw [hml]; rfl) [(.int i)] 0 (by decide) (Nat.le_of_eq rfl) (by decide) (by decide) (lenOf own_pd12 rfl) rfl rfl 14 rfl (hb hby own_d29_11) fun v572 T572 Lc572 X572 hQ572 => ?_
  obtain ⟨rfl, Nq572, e572⟩ := hQ572
  have N573 := Fr.app N571 Nq572
  show own_Go _ _ _ _ _ (State.setTop _ (mkF _ 14 _ [(.ref y)]))
  refine own_ret X572 (some (.ref y)) (fun h => by rw [Bd.returns] at h; cases h) Bd.notSynchronized (by decide) (by decide) ?_ (fun fs hr => own_retR X572 hx Bd.returns rfl rfl (hb hby own_d29_14) hr)
  show Q_rm_get Z o i sz a ka vs y h0 n0 _ T572.heap _
  rw [e572]
  exact ⟨rfl, N573, rfl⟩
theorem own_ef_rm_uget (m : MethodId) (o : Addr) (i : Int32) : entryFrame m #[(.ref o), (.int i)] 2 = mkF m 0 #[.val (.ref o), .val (.int i)] [] := by first | (simp [entryFrame, mkF, argsToLocals, Value.category]; done) | rfl
def Q_rm_uget (Z : State) (o : Addr) (i : Int32) (li : Addr) (sz : Int32) (a : Addr) (ka : ClassId) (vs : List Value) (y : Addr) (h0 : Heap) (n0 : Nat) (v : Option Value) (h : Heap) (L : List Loc) : Prop := v = some (.ref y) ∧ Fr n0 L ∧ h = h0
theorem own_d28_0 : decode jdk_120_method_4_code 0 = .ok (.aload_n 0, 1) := by decide +kernel
theorem own_d28_1 : decode jdk_120_method_4_code 1 = .ok (.getfield 7, 3) := by decide +kernel
theorem own_d28_4 : decode jdk_120_method_4_code 4 = .ok (.iload_n 1, 1) := by decide +kernel
theorem own_d28_5 : decode jdk_120_method_4_code 5 = .ok (.invokeinterface 23 2, 5) := by decide +kernel
theorem own_d28_10 : decode jdk_120_method_4_code 10 = .ok (.areturn, 1) := by decide +kernel
set_option maxRecDepth 65536 in
set_option maxHeartbeats 40000000 in
theorem rm_uget (l : Launch) (Z : State) (a0 : Array Value) (hw : ∀ d ∈ tables_1, d.before a0 Z = true) (ws : List Jvm.Cond) (o : Addr) (i : Int32) (li : Addr) (sz : Int32) (a : Addr) (ka : ClassId) (vs : List Value) (y : Addr) (h0 : Heap) (n0 : Nat) (Z0 : n0 ≤ h0.size) (F0 : Fld Z h0 o "java/util/Collections$UnmodifiableList" "list" "Ljava/util/List;" (.ref li)) (E1 : Exa Z h0 li "java/util/ArrayList") (F1 : Fld Z h0 li "java/util/ArrayList" "elementData" "[Ljava/lang/Object;" (.ref a)) (F2 : Fld Z h0 li "java/util/ArrayList" "size" "I" (.int sz)) (A1 : Arv Z h0 a ka (.object "java/lang/Object") (10 : Int32) vs .null) (h1 : ¬ i < 0) (h2 : i < sz) (inb : ¬ i < 0 ∧ i < (10 : Int32)) (hv : vs.getD i.toNatClampNeg .null = .ref y) :
    MetFree l (⟨"java/util/Collections$UnmodifiableList", "get", "(I)Ljava/lang/Object;"⟩ : MethodName) (head1 (Jvm.Cond.code (⟨"java/util/Collections$UnmodifiableList", "get", "(I)Ljava/lang/Object;"⟩ : MethodName) jdk_120_method_4_code 2 (some (.object "java/lang/Object")) :: ws) ({ frames := 3, cells := 0, slots := 0, locals := 45 } : Room)) (fun aa U => aa = #[(.ref o), (.int i)] ∧ Z.Warmed39 U.vm ∧ U.heap = h0) (fun _ _ _ _ _ => True) (fun _ U ou U' => ∃ v L, ou = .returned v ∧ Q_rm_uget Z o i li sz a ka vs y h0 n0 v U'.heap L ∧ FrameEnd U ou U' L ({ frames := 3, cells := 0, slots := 0, locals := 45 } : Room).cells ({ frames := 3, cells := 0, slots := 0, locals := 45 } : Room).slots) := by
  refine MetFree.of_bodySF (plainFor_of_name own_pn10) hisR ?_
  intro p e s m args below meth c s₁ Bd hml0 hP hK
  obtain ⟨rfl, hZ, hh⟩ := hP
  have hx := Bd.exec
  have hby := Bd.bytes
  have hml : c.maxLocals = 2 := hml0
  have hown : s.vm.findClass "java/util/Collections$UnmodifiableList" = some m.cls := findClass_of_methodNamed Bd.named
  have hnm := (name_of_methodNamed Bd.named Bd.method).1
  have X0 : Stand p l e ({ frames := 3, cells := 0, slots := 0, locals := 45 } : Room) s m #[(.ref o), (.int i)] below meth c s₁ [] 0 0 := Stand.of_body Bd
  have e0 : s₁.heap = h0 := by rw [← hh, Bd.state]; rfl
  have N0 := Fr.nil n0
  show own_Go p e below (fun o u L => FrameEnd s o u L ({ frames := 3, cells := 0, slots := 0, locals := 45 } : Room).cells ({ frames := 3, cells := 0, slots := 0, locals := 45 } : Room).slots) (Q_rm_uget Z o i li sz a ka vs y h0 n0) (s₁.setTop (entryFrame m #[(.ref o), (.int i)] 2))
  rw [own_ef_rm_uget m o i]
  show own_Go _ _ _ _ _ (State.setTop _ (mkF _ 0 #[.val (.ref o), .val (.int i)] []))
  refine own_aloadN X0 hx 1 rfl (hb hby own_d28_0) rfl rfl ?_
  refine own_getF X0 hx hZ (host := "") hown (Or.inl (own_hw hw 184 rfl)) Via.refl e0 F0 4 rfl (hb hby own_d28_1) fun T574 X574 e574 => ?_
  refine own_iloadN X574 hx 5 rfl (hb hby own_d28_4) rfl ?_
  refine own_iface X574 hx hZ (C := "java/util/ArrayList") (xi := (⟨"java/util/List", "get", "(I)Ljava/lang/Object;"⟩ : MethodName)) (y := (⟨"java/util/ArrayList", "get", "(I)Ljava/lang/Object;"⟩ : MethodName)) hown (own_hw hw 212 rfl) (own_hw hw 205 rfl) (own_hw hw 206 rfl) rfl (own_hw hw 213 rfl) (own_hw hw 214 rfl) (own_hw hw 215 rfl) (own_hw hw 216 rfl) (own_hw hw 96 rfl) (a := li) E1 (by decide) (rm_get l Z a0 hw [] li i sz a ka vs y h0 n0 Z0 E1 F1 F2 A1 h1 h2 inb hv) (own_hw hw 217 rfl) (own_hw hw 36 rfl) (by decide) e574 (by rw [hml]; rfl) [(.int i)] 0 (by decide) (Nat.le_of_eq rfl) (by decide) (by decide) (lenOf own_pd12 rfl) rfl rfl 10 rfl (hb hby own_d28_5) fun v575 T575 Lc575 X575 hQ575 => ?_
  obtain ⟨rfl, Nq575, e575⟩ := hQ575
  have N576 := Fr.app N0 Nq575
  show own_Go _ _ _ _ _ (State.setTop _ (mkF _ 10 _ [(.ref y)]))
  refine own_ret X575 (some (.ref y)) (fun h => by rw [Bd.returns] at h; cases h) Bd.notSynchronized (by decide) (by decide) ?_ (fun fs hr => own_retR X575 hx Bd.returns rfl rfl (hb hby own_d28_10) hr)
  show Q_rm_uget Z o i li sz a ka vs y h0 n0 _ T575.heap _
  rw [e575]
  exact ⟨rfl, N576, rfl⟩
theorem own_pn15 : plainName "java/lang/StringLatin1" = true := by first | (simp [plainName, overriddenIn]; done) | decide +kernel
theorem own_ef_rm_canenc (m : MethodId) (c1 : Int32) : entryFrame m #[(.int c1)] 1 = mkF m 0 #[.val (.int c1)] [] := by first | (simp [entryFrame, mkF, argsToLocals, Value.category]; done) | rfl
def Q_rm_canenc (Z : State) (c1 : Int32) (h0 : Heap) (n0 : Nat) (v : Option Value) (h : Heap) (L : List Loc) : Prop := v = some (.int (1 : Int32)) ∧ Fr n0 L ∧ h = h0
theorem own_d2_0 : decode jdk_43_method_3_code 0 = .ok (.iload_n 0, 1) := by decide +kernel
theorem own_d2_1 : decode jdk_43_method_3_code 1 = .ok (.sipush 255, 3) := by decide +kernel
theorem own_d2_4 : decode jdk_43_method_3_code 4 = .ok (.if_icmp .gt 7, 3) := by decide +kernel
theorem own_d2_7 : decode jdk_43_method_3_code 7 = .ok (.iconst 1, 1) := by decide +kernel
theorem own_d2_8 : decode jdk_43_method_3_code 8 = .ok (.goto 4, 3) := by decide +kernel
theorem own_d2_12 : decode jdk_43_method_3_code 12 = .ok (.ireturn, 1) := by decide +kernel
set_option maxRecDepth 65536 in
set_option maxHeartbeats 40000000 in
theorem rm_canenc (l : Launch) (Z : State) (a0 : Array Value) (hw : ∀ d ∈ tables_1, d.before a0 Z = true) (ws : List Jvm.Cond) (c1 : Int32) (h0 : Heap) (n0 : Nat) (Z0 : n0 ≤ h0.size) (hc : ¬ (255 : Int32) < c1) :
    MetFree l (⟨"java/lang/StringLatin1", "canEncode", "(C)Z"⟩ : MethodName) (head1 (Jvm.Cond.code (⟨"java/lang/StringLatin1", "canEncode", "(C)Z"⟩ : MethodName) jdk_43_method_3_code 1 (some .boolean) :: ws) ({ frames := 0, cells := 0, slots := 0, locals := 0 } : Room)) (fun aa U => aa = #[(.int c1)] ∧ Z.Warmed39 U.vm ∧ U.heap = h0) (fun _ _ _ _ _ => True) (fun _ U ou U' => ∃ v L, ou = .returned v ∧ Q_rm_canenc Z c1 h0 n0 v U'.heap L ∧ FrameEnd U ou U' L ({ frames := 0, cells := 0, slots := 0, locals := 0 } : Room).cells ({ frames := 0, cells := 0, slots := 0, locals := 0 } : Room).slots) := by
  refine MetFree.of_bodySF (plainFor_of_name own_pn15) hisR ?_
  intro p e s m args below meth c s₁ Bd hml0 hP hK
  obtain ⟨rfl, hZ, hh⟩ := hP
  have hx := Bd.exec
  have hby := Bd.bytes
  have hml : c.maxLocals = 1 := hml0
  have hown : s.vm.findClass "java/lang/StringLatin1" = some m.cls := findClass_of_methodNamed Bd.named
  have hnm := (name_of_methodNamed Bd.named Bd.method).1
  have X0 : Stand p l e ({ frames := 0, cells := 0, slots := 0, locals := 0 } : Room) s m #[(.int c1)] below meth c s₁ [] 0 0 := Stand.of_body Bd
  have e0 : s₁.heap = h0 := by rw [← hh, Bd.state]; rfl
  have N0 := Fr.nil n0
  show own_Go p e below (fun o u L => FrameEnd s o u L ({ frames := 0, cells := 0, slots := 0, locals := 0 } : Room).cells ({ frames := 0, cells := 0, slots := 0, locals := 0 } : Room).slots) (Q_rm_canenc Z c1 h0 n0) (s₁.setTop (entryFrame m #[(.int c1)] 1))
  rw [own_ef_rm_canenc m c1]
  show own_Go _ _ _ _ _ (State.setTop _ (mkF _ 0 #[.val (.int c1)] []))
  refine own_iloadN X0 hx 1 rfl (hb hby own_d2_0) rfl ?_
  refine own_sipush X0 hx 4 rfl (hb hby own_d2_1) (255 : Int32) rfl ?_
  refine own_icmpNo X0 hx 7 rfl (hb hby own_d2_4) (flt hc).2.2.1 ?_
  refine own_iconst X0 hx 8 rfl (hb hby own_d2_7) (1 : Int32) rfl ?_
  refine own_goto X0 hx 12 (hb hby own_d2_8) (by decide) rfl ?_
  refine own_ret X0 (some (.int (1 : Int32))) (fun h => by rw [Bd.returns] at h; cases h) Bd.notSynchronized (by decide) (by decide) ?_ (fun fs hr => retN X0 hx (t := .boolean) Bd.returns (by simp) (hb hby own_d2_12) hr)
  show Q_rm_canenc Z c1 h0 n0 _ s₁.heap _
  rw [e0]
  exact ⟨rfl, N0, rfl⟩
theorem own_ef_rm_tobytes (m : MethodId) (c1 : Int32) : entryFrame m #[(.int c1)] 1 = mkF m 0 #[.val (.int c1)] [] := by first | (simp [entryFrame, mkF, argsToLocals, Value.category]; done) | rfl
def Q_rm_tobytes (Z : State) (c1 : Int32) (h0 : Heap) (n0 : Nat) (v : Option Value) (h : Heap) (L : List Loc) : Prop := ∃ r : Addr, v = some (.ref r) ∧ Fr n0 L ∧ Keep h0 h [] ∧ h0.size ≤ r
theorem own_d3_0 : decode jdk_43_method_46_code 0 = .ok (.iconst 1, 1) := by decide +kernel
theorem own_d3_1 : decode jdk_43_method_46_code 1 = .ok (.newarray .byte, 2) := by decide +kernel
theorem own_d3_3 : decode jdk_43_method_46_code 3 = .ok (.dup, 1) := by decide +kernel
theorem own_d3_4 : decode jdk_43_method_46_code 4 = .ok (.iconst 0, 1) := by decide +kernel
theorem own_d3_5 : decode jdk_43_method_46_code 5 = .ok (.iload_n 0, 1) := by decide +kernel
theorem own_d3_6 : decode jdk_43_method_46_code 6 = .ok (.i2b, 1) := by decide +kernel
theorem own_d3_7 : decode jdk_43_method_46_code 7 = .ok (.bastore, 1) := by decide +kernel
theorem own_d3_8 : decode jdk_43_method_46_code 8 = .ok (.areturn, 1) := by decide +kernel
set_option maxRecDepth 65536 in
set_option maxHeartbeats 40000000 in
theorem rm_tobytes (l : Launch) (Z : State) (a0 : Array Value) (hw : ∀ d ∈ tables_1, d.before a0 Z = true) (ws : List Jvm.Cond) (c1 : Int32) (h0 : Heap) (n0 : Nat) (Z0 : n0 ≤ h0.size)  :
    MetFree l (⟨"java/lang/StringLatin1", "toBytes", "(C)[B"⟩ : MethodName) (head1 (Jvm.Cond.code (⟨"java/lang/StringLatin1", "toBytes", "(C)[B"⟩ : MethodName) jdk_43_method_46_code 1 (some (.array .byte)) :: ws) ({ frames := 0, cells := 1, slots := 1, locals := 0 } : Room)) (fun aa U => aa = #[(.int c1)] ∧ Z.Warmed39 U.vm ∧ U.heap = h0) (fun _ _ _ _ _ => True) (fun _ U ou U' => ∃ v L, ou = .returned v ∧ Q_rm_tobytes Z c1 h0 n0 v U'.heap L ∧ FrameEnd U ou U' L ({ frames := 0, cells := 1, slots := 1, locals := 0 } : Room).cells ({ frames := 0, cells := 1, slots := 1, locals := 0 } : Room).slots) := by
  refine MetFree.of_bodySF (plainFor_of_name own_pn15) hisR ?_
  intro p e s m args below meth c s₁ Bd hml0 hP hK
  obtain ⟨rfl, hZ, hh⟩ := hP
  have hx := Bd.exec
  have hby := Bd.bytes
  have hml : c.maxLocals = 1 := hml0
  have hown : s.vm.findClass "java/lang/StringLatin1" = some m.cls := findClass_of_methodNamed Bd.named
  have hnm := (name_of_methodNamed Bd.named Bd.method).1
  have X0 : Stand p l e ({ frames := 0, cells := 1, slots := 1, locals := 0 } : Room) s m #[(.int c1)] below meth c s₁ [] 0 0 := Stand.of_body Bd
  have e0 : s₁.heap = h0 := by rw [← hh, Bd.state]; rfl
  have N0 := Fr.nil n0
  have K0 := Keep.refl h0 []
  show own_Go p e below (fun o u L => FrameEnd s o u L ({ frames := 0, cells := 1, slots := 1, locals := 0 } : Room).cells ({ frames := 0, cells := 1, slots := 1, locals := 0 } : Room).slots) (Q_rm_tobytes Z c1 h0 n0) (s₁.setTop (entryFrame m #[(.int c1)] 1))
  rw [own_ef_rm_tobytes m c1]
  show own_Go _ _ _ _ _ (State.setTop _ (mkF _ 0 #[.val (.int c1)] []))
  refine own_iconst X0 hx 1 rfl (hb hby own_d3_0) (1 : Int32) rfl ?_
  refine own_newA X0 hx hZ (own_hw hw 15 rfl) e0 3 rfl (hb hby own_d3_1) (by decide) 1 (by decide) (by decide) (by decide) (by decide) "[B" (by decide) fun T577 h577 k577 b577 g577 X577 e577 E577 A577 C577 => ?_
  have ge578 : n0 ≤ b577 := Nat.le_trans Z0 (Nat.le_of_eq g577.symm)
  have sz579 : h0.size ≤ b577 := Nat.le_trans K0.1 (Nat.le_of_eq g577.symm)
  have z580 := Nat.le_trans Z0 E577.1
  have K581 := K0.ext E577
  have f582 : Arv Z h577 b577 k577 .byte (1 : Int32) [(.int (0 : Int32))] (.int (0 : Int32)) := (Arv.new A577 (by decide)).pad (pad_rep [] (.int (0 : Int32)) 1)
  refine own_dup X577 hx 4 rfl (hb hby own_d3_3) rfl ?_
  refine own_iconst X577 hx 5 rfl (hb hby own_d3_4) (0 : Int32) rfl ?_
  refine own_iloadN X577 hx 6 rfl (hb hby own_d3_5) rfl ?_
  refine own_i2b X577 hx 7 rfl (hb hby own_d3_6) _ rfl ?_
  refine own_stB X577 hx hZ e577 f582 ⟨by decide, by decide⟩ 0 rfl (Nat.le_of_ble_eq_true rfl) [(.int c1.toInt8.toInt32.toInt8.toInt32)] rfl 8 rfl (hb hby own_d3_7) fun T583 h583 X583 e583 W583 f584 => ?_
  have f585 := C577.wr W583
  have z586 := Nat.le_trans z580 (Keep.of_wr W583).1
  have K587 := K581.wr W583 (Or.inr sz579)
  have N588 := Fr.snoc X583 N0 ge578
  refine own_ret X583 (some (.ref b577)) (fun h => by rw [Bd.returns] at h; cases h) Bd.notSynchronized (by decide) (by decide) ?_ (fun fs hr => own_retR X583 hx Bd.returns rfl rfl (hb hby own_d3_8) hr)
  show Q_rm_tobytes Z c1 h0 n0 _ T583.heap _
  rw [e583]
  exact ⟨b577, rfl, N588, K587, sz579⟩
theorem own_pn16 : plainName "java/lang/String" = true := by first | (simp [plainName, overriddenIn]; done) | decide +kernel
theorem own_ef_rm_strinit (m : MethodId) (o : Addr) (b : Addr) : entryFrame m #[(.ref o), (.ref b), (.int (0 : Int32))] 3 = mkF m 0 #[.val (.ref o), .val (.ref b), .val (.int (0 : Int32))] [] := by first | (simp [entryFrame, mkF, argsToLocals, Value.category]; done) | rfl
def Q_rm_strinit (Z : State) (o : Addr) (b : Addr) (h0 : Heap) (n0 : Nat) (v : Option Value) (h : Heap) (L : List Loc) : Prop := v = none ∧ Fr n0 L ∧ Keep h0 h [o] ∧ Exa Z h o "java/lang/String"
theorem own_d4_0 : decode jdk_42_method_151_code 0 = .ok (.aload_n 0, 1) := by decide +kernel
theorem own_d4_1 : decode jdk_42_method_151_code 1 = .ok (.invokespecial 1, 3) := by decide +kernel
theorem own_d4_4 : decode jdk_42_method_151_code 4 = .ok (.aload_n 0, 1) := by decide +kernel
theorem own_d4_5 : decode jdk_42_method_151_code 5 = .ok (.aload_n 1, 1) := by decide +kernel
theorem own_d4_6 : decode jdk_42_method_151_code 6 = .ok (.putfield 9, 3) := by decide +kernel
theorem own_d4_9 : decode jdk_42_method_151_code 9 = .ok (.aload_n 0, 1) := by decide +kernel
theorem own_d4_10 : decode jdk_42_method_151_code 10 = .ok (.iload_n 2, 1) := by decide +kernel
theorem own_d4_11 : decode jdk_42_method_151_code 11 = .ok (.putfield 15, 3) := by decide +kernel
theorem own_d4_14 : decode jdk_42_method_151_code 14 = .ok (.return_, 1) := by decide +kernel
set_option maxRecDepth 65536 in
set_option maxHeartbeats 40000000 in
theorem rm_strinit (l : Launch) (Z : State) (a0 : Array Value) (hw : ∀ d ∈ tables_1, d.before a0 Z = true) (ws : List Jvm.Cond) (o : Addr) (b : Addr) (h0 : Heap) (n0 : Nat) (Z0 : n0 ≤ h0.size) (E1 : Exa Z h0 o "java/lang/String") (F1 : Fld Z h0 o "java/lang/String" "value" "[B" .null) (F2 : Fld Z h0 o "java/lang/String" "coder" "B" (.int (0 : Int32))) (g_o : n0 ≤ o) :
    MetFree l (⟨"java/lang/String", "<init>", "([BB)V"⟩ : MethodName) (head1 (Jvm.Cond.code (⟨"java/lang/String", "<init>", "([BB)V"⟩ : MethodName) jdk_42_method_151_code 3 none :: ws) ({ frames := 1, cells := 0, slots := 0, locals := 12 } : Room)) (fun aa U => aa = #[(.ref o), (.ref b), (.int (0 : Int32))] ∧ Z.Warmed39 U.vm ∧ U.heap = h0) (fun _ _ _ _ _ => True) (fun _ U ou U' => ∃ v L, ou = .returned v ∧ Q_rm_strinit Z o b h0 n0 v U'.heap L ∧ FrameEnd U ou U' L ({ frames := 1, cells := 0, slots := 0, locals := 12 } : Room).cells ({ frames := 1, cells := 0, slots := 0, locals := 12 } : Room).slots) := by
  refine MetFree.of_bodySF (plainFor_of_name own_pn16) hisR ?_
  intro p e s m args below meth c s₁ Bd hml0 hP hK
  obtain ⟨rfl, hZ, hh⟩ := hP
  have hx := Bd.exec
  have hby := Bd.bytes
  have hml : c.maxLocals = 3 := hml0
  have hown : s.vm.findClass "java/lang/String" = some m.cls := findClass_of_methodNamed Bd.named
  have hnm := (name_of_methodNamed Bd.named Bd.method).1
  have X0 : Stand p l e ({ frames := 1, cells := 0, slots := 0, locals := 12 } : Room) s m #[(.ref o), (.ref b), (.int (0 : Int32))] below meth c s₁ [] 0 0 := Stand.of_body Bd
  have e0 : s₁.heap = h0 := by rw [← hh, Bd.state]; rfl
  have N0 := Fr.nil n0
  have K0 := Keep.refl h0 [o]
  show own_Go p e below (fun o u L => FrameEnd s o u L ({ frames := 1, cells := 0, slots := 0, locals := 12 } : Room).cells ({ frames := 1, cells := 0, slots := 0, locals := 12 } : Room).slots) (Q_rm_strinit Z o b h0 n0) (s₁.setTop (entryFrame m #[(.ref o), (.ref b), (.int (0 : Int32))] 3))
  rw [own_ef_rm_strinit m o b]
  show own_Go _ _ _ _ _ (State.setTop _ (mkF _ 0 #[.val (.ref o), .val (.ref b), .val (.int (0 : Int32))] []))
  refine own_aloadN X0 hx 1 rfl (hb hby own_d4_0) rfl rfl ?_
  refine own_initO X0 hx hZ hown (own_hw hw 20 rfl) (own_hw hw 21 rfl) (own_hw hw 22 rfl) e0 (by rw [hml]; rfl) 4 rfl (hb hby own_d4_1) (by decide) 0 (Nat.le_of_eq rfl) (by decide) fun T589 X589 e589 => ?_
  refine own_aloadN X589 hx 5 rfl (hb hby own_d4_4) rfl rfl ?_
  refine own_aloadN X589 hx 6 rfl (hb hby own_d4_5) rfl rfl ?_
  refine own_putF X589 hx hZ (host := "") hown (Or.inl (own_hw hw 23 rfl)) Via.refl e589 F1 E1 (Or.inr ⟨(own_hw hw 24 rfl), rfl, hnm⟩) (own_hw hw 11 rfl) (ty := (.array .byte)) (by decide) rfl rfl 9 rfl (hb hby own_d4_6) fun T590 h590 X590 e590 W590 => ?_
  have f591 := E1.wr W590
  have f592 := F2.other W590 (Or.inr (slot_ne (Or.inr (own_hw hw 26 rfl)) (Or.inr (own_hw hw 24 rfl)) (by decide) (t := .byte) (t' := (.array .byte)) (by decide) (by decide)))
  have z593 := Nat.le_trans Z0 (Keep.of_wr W590).1
  have K594 := K0.wr W590 (Or.inl (List.mem_of_getElem? (i := 0) rfl))
  have f595 := F1.same W590
  have N596 := Fr.snoc X590 N0 g_o
  refine own_aloadN X590 hx 10 rfl (hb hby own_d4_9) rfl rfl ?_
  refine own_iloadN X590 hx 11 rfl (hb hby own_d4_10) rfl ?_
  refine own_putFN X590 hx hZ hown (own_hw hw 25 rfl) Via.refl e590 f592 f591 (Or.inr ⟨(own_hw hw 26 rfl), rfl, hnm⟩) (own_hw hw 11 rfl) (ty := .byte) (v' := (.int (0 : Int32))) (by decide) rfl rfl 14 rfl (hb hby own_d4_11) fun T597 h597 X597 e597 W597 => ?_
  have f598 := f591.wr W597
  have f599 := f595.other W597 (Or.inr (slot_ne (Or.inr (own_hw hw 24 rfl)) (Or.inr (own_hw hw 26 rfl)) (by decide) (t := (.array .byte)) (t' := .byte) (by decide) (by decide)))
  have z600 := Nat.le_trans z593 (Keep.of_wr W597).1
  have K601 := K594.wr W597 (Or.inl (List.mem_of_getElem? (i := 0) rfl))
  have f602 := f592.same W597
  have N603 := Fr.snoc X597 N596 g_o
  refine own_ret X597 none (fun _ => rfl) Bd.notSynchronized (by decide) (by decide) ?_ (fun fs hr => X597.returnOut hx Bd.returns (hb hby own_d4_14) hr)
  show Q_rm_strinit Z o b h0 n0 _ T597.heap _
  rw [e597]
  exact ⟨rfl, N603, K601, f598⟩
theorem own_ef_rm_valueof (m : MethodId) (c1 : Int32) : entryFrame m #[(.int c1)] 1 = mkF m 0 #[.val (.int c1)] [] := by first | (simp [entryFrame, mkF, argsToLocals, Value.category]; done) | rfl
def Q_rm_valueof (Z : State) (c1 : Int32) (cs : Int32) (h0 : Heap) (n0 : Nat) (v : Option Value) (h : Heap) (L : List Loc) : Prop := ∃ (r : Addr), v = some (.ref r) ∧ Fr n0 L ∧ Keep h0 h [] ∧ h0.size ≤ r ∧ Exa Z h r "java/lang/String"
theorem own_d1_0 : decode jdk_42_method_139_code 0 = .ok (.getstatic 38, 3) := by decide +kernel
theorem own_d1_3 : decode jdk_42_method_139_code 3 = .ok (.ifCond .eq 23, 3) := by decide +kernel
theorem own_d1_6 : decode jdk_42_method_139_code 6 = .ok (.iload_n 0, 1) := by decide +kernel
theorem own_d1_7 : decode jdk_42_method_139_code 7 = .ok (.invokestatic 1015, 3) := by decide +kernel
theorem own_pd13 : parseMethodDescriptor "(C)Z" = some ⟨[.char], some .boolean⟩ := by decide +kernel
theorem own_d1_10 : decode jdk_42_method_139_code 10 = .ok (.ifCond .eq 16, 3) := by decide +kernel
theorem own_d1_13 : decode jdk_42_method_139_code 13 = .ok (.new 10, 3) := by decide +kernel
theorem own_d1_16 : decode jdk_42_method_139_code 16 = .ok (.dup, 1) := by decide +kernel
theorem own_d1_17 : decode jdk_42_method_139_code 17 = .ok (.iload_n 0, 1) := by decide +kernel
theorem own_d1_18 : decode jdk_42_method_139_code 18 = .ok (.invokestatic 1018, 3) := by decide +kernel
theorem own_pd14 : parseMethodDescriptor "(C)[B" = some ⟨[.char], some (.array .byte)⟩ := by decide +kernel
theorem own_d1_21 : decode jdk_42_method_139_code 21 = .ok (.iconst 0, 1) := by decide +kernel
theorem own_d1_22 : decode jdk_42_method_139_code 22 = .ok (.invokespecial 209, 3) := by decide +kernel
theorem own_pd15 : parseMethodDescriptor "([BB)V" = some ⟨[(.array .byte), .byte], none⟩ := by decide +kernel
theorem own_d1_25 : decode jdk_42_method_139_code 25 = .ok (.areturn, 1) := by decide +kernel
set_option maxRecDepth 65536 in
set_option maxHeartbeats 40000000 in
theorem rm_valueof (l : Launch) (Z : State) (a0 : Array Value) (hw : ∀ d ∈ tables_1, d.before a0 Z = true) (ws : List Jvm.Cond) (c1 : Int32) (cs : Int32) (h0 : Heap) (n0 : Nat) (Z0 : n0 ≤ h0.size) (S1 : Sta Z h0 "java/lang/String" "COMPACT_STRINGS" "Z" (.int cs)) (hcs : ¬ cs = 0) (hc : ¬ (255 : Int32) < c1) :
    MetFree l (⟨"java/lang/String", "valueOf", "(C)Ljava/lang/String;"⟩ : MethodName) (head1 (Jvm.Cond.code (⟨"java/lang/String", "valueOf", "(C)Ljava/lang/String;"⟩ : MethodName) jdk_42_method_139_code 1 (some (.object "java/lang/String")) :: ws) ({ frames := 2, cells := 2, slots := 5, locals := 40 } : Room)) (fun aa U => aa = #[(.int c1)] ∧ Z.Warmed39 U.vm ∧ U.heap = h0) (fun _ _ _ _ _ => True) (fun _ U ou U' => ∃ v L, ou = .returned v ∧ Q_rm_valueof Z c1 cs h0 n0 v U'.heap L ∧ FrameEnd U ou U' L ({ frames := 2, cells := 2, slots := 5, locals := 40 } : Room).cells ({ frames := 2, cells := 2, slots := 5, locals := 40 } : Room).slots) := by
  refine MetFree.of_bodySF (plainFor_of_name own_pn16) hisR ?_
  intro p e s m args below meth c s₁ Bd hml0 hP hK
  obtain ⟨rfl, hZ, hh⟩ := hP
  have hx := Bd.exec
  have hby := Bd.bytes
  have hml : c.maxLocals = 1 := hml0
  have hown : s.vm.findClass "java/lang/String" = some m.cls := findClass_of_methodNamed Bd.named
  have hnm := (name_of_methodNamed Bd.named Bd.method).1
  have X0 : Stand p l e ({ frames := 2, cells := 2, slots := 5, locals := 40 } : Room) s m #[(.int c1)] below meth c s₁ [] 0 0 := Stand.of_body Bd
  have e0 : s₁.heap = h0 := by rw [← hh, Bd.state]; rfl
  have N0 := Fr.nil n0
  have K0 := Keep.refl h0 []
  show own_Go p e below (fun o u L => FrameEnd s o u L ({ frames := 2, cells := 2, slots := 5, locals := 40 } : Room).cells ({ frames := 2, cells := 2, slots := 5, locals := 40 } : Room).slots) (Q_rm_valueof Z c1 cs h0 n0) (s₁.setTop (entryFrame m #[(.int c1)] 1))
  rw [own_ef_rm_valueof m c1]
  show own_Go _ _ _ _ _ (State.setTop _ (mkF _ 0 #[.val (.int c1)] []))
  refine own_getS X0 hx hZ (host := "") hown (Or.inl (own_hw hw 5 rfl)) Via.refl e0 S1 3 rfl (hb hby own_d1_0) fun T604 X604 e604 => ?_
  refine own_ifNo X604 hx 6 rfl (hb hby own_d1_3) ((if0 _ _).trans (feq hcs).1) ?_
  refine own_iloadN X604 hx 7 rfl (hb hby own_d1_6) rfl ?_
  refine own_callS X604 hx hZ (y := (⟨"java/lang/StringLatin1", "canEncode", "(C)Z"⟩ : MethodName)) hown (own_hw hw 6 rfl) (own_hw hw 7 rfl) (by decide) (rm_canenc l Z a0 hw [] c1 h0 n0 Z0 hc) (own_hw hw 9 rfl) (own_hw hw 8 rfl) (by decide) e604 (by rw [hml]; rfl) [(.int c1)] 0 (by decide) (Nat.le_of_eq rfl) (by decide) (by decide) (lenOf own_pd13 rfl) rfl rfl 10 rfl (hb hby own_d1_7) fun v605 T605 Lc605 X605 hQ605 => ?_
  obtain ⟨rfl, Nq605, e605⟩ := hQ605
  have N606 := Fr.app N0 Nq605
  show own_Go _ _ _ _ _ (State.setTop _ (mkF _ 10 _ [(.int (1 : Int32))]))
  refine own_ifNo X605 hx 13 rfl (hb hby own_d1_10) (by decide) ?_
  refine own_new X605 hx hZ hown (own_hw hw 10 rfl) (own_hw hw 11 rfl) (own_hw hw 3 rfl) e605 16 rfl (hb hby own_d1_13) (by decide) (by decide) fun T607 h607 b607 g607 X607 e607 E607 A607 D607 => ?_
  have ge608 : n0 ≤ b607 := Nat.le_trans Z0 (Nat.le_of_eq g607.symm)
  have sz609 : h0.size ≤ b607 := Nat.le_trans K0.1 (Nat.le_of_eq g607.symm)
  have f610 := S1.ext E607
  have z611 := Nat.le_trans Z0 E607.1
  have K612 := K0.ext E607
  have f613 : Fld Z h607 b607 "java/lang/String" "value" "[B" .null := D607 (Or.inr (own_hw hw 24 rfl)) (ty := (.array .byte)) (by decide)
  have f614 : Fld Z h607 b607 "java/lang/String" "coder" "B" (.int (0 : Int32)) := D607 (Or.inr (own_hw hw 26 rfl)) (ty := .byte) (by decide)
  refine own_dup X607 hx 17 rfl (hb hby own_d1_16) rfl ?_
  refine own_iloadN X607 hx 18 rfl (hb hby own_d1_17) rfl ?_
  refine own_callS X607 hx hZ (y := (⟨"java/lang/StringLatin1", "toBytes", "(C)[B"⟩ : MethodName)) hown (own_hw hw 12 rfl) (own_hw hw 13 rfl) (by decide) (rm_tobytes l Z a0 hw [] c1 h607 n0 z611 ) (own_hw hw 14 rfl) (own_hw hw 8 rfl) (by decide) e607 (by rw [hml]; rfl) [(.int c1)] 2 (by decide) (Nat.le_of_eq rfl) (by decide) (by decide) (lenOf own_pd14 rfl) rfl rfl 21 rfl (hb hby own_d1_18) fun v615 T615 Lc615 X615 hQ615 => ?_
  obtain ⟨r_615, rfl, Nq615, Kq615, sd0_615⟩ := hQ615
  have N616 := Fr.app N606 Nq615
  have ne617 : b607 ≠ r_615 := Nat.ne_of_lt (Nat.lt_of_lt_of_le A607.lt sd0_615)
  have ge618 : n0 ≤ r_615 := Nat.le_trans z611 sd0_615
  have sz619 : h0.size ≤ r_615 := Nat.le_trans K612.1 sd0_615
  have f620 := own_staKeep f610 Kq615 ns0
  have f621 := A607.keep Kq615
  have f622 := f613.keep Kq615 nin0
  have f623 := f614.keep Kq615 nin0
  have z624 := Nat.le_trans z611 Kq615.1
  have K625 := K612.trans Kq615 all0
  show own_Go _ _ _ _ _ (State.setTop _ (mkF _ 21 _ [(.ref r_615), (.ref b607), (.ref b607)]))
  refine own_iconst X615 hx 22 rfl (hb hby own_d1_21) (0 : Int32) rfl ?_
  refine own_special X615 hx hZ (y := (⟨"java/lang/String", "<init>", "([BB)V"⟩ : MethodName)) hown rfl (own_hw hw 16 rfl) (own_hw hw 17 rfl) (a := b607) (by decide) rfl (rm_strinit l Z a0 hw [] b607 r_615 T615.heap n0 z624 f621 f622 f623 ge608) (own_hw hw 19 rfl) (own_hw hw 3 rfl) (by decide) rfl (by rw [hml]; rfl) [(.ref r_615), (.int (0 : Int32))] 1 (by decide) (Nat.le_of_eq rfl) (by decide) (by decide) (lenOf own_pd15 rfl) rfl rfl 25 rfl (hb hby own_d1_22) fun v626 T626 Lc626 X626 hQ626 => ?_
  obtain ⟨rfl, Nq626, Kq626, f627⟩ := hQ626
  have N628 := Fr.app N616 Nq626
  have f629 := own_staKeep f620 Kq626 (nsS f621.nostat ns0)
  have f630 := f621.keep Kq626
  have z633 := Nat.le_trans z624 Kq626.1
  have K634 := K625.trans Kq626 (allS (Or.inr sz609) all0)
  show own_Go _ _ _ _ _ (State.setTop _ (mkF _ 25 _ [(.ref b607)]))
  refine own_ret X626 (some (.ref b607)) (fun h => by rw [Bd.returns] at h; cases h) Bd.notSynchronized (by decide) (by decide) ?_ (fun fs hr => own_retR X626 hx Bd.returns rfl rfl (hb hby own_d1_25) hr)
  show Q_rm_valueof Z c1 cs h0 n0 _ T626.heap _
  exact ⟨b607, rfl, N628, K634, sz609, f627⟩
theorem own_pn17 : plainName "java/lang/StringUTF16" = true := by first | (simp [plainName, overriddenIn]; done) | decide +kernel
theorem own_ef_rm_cp5 (m : MethodId) (a : Addr) (b : Addr) : entryFrame m #[(.ref a), (.int (0 : Int32)), (.ref b), (.int (0 : Int32)), (.int (2 : Int32))] 7 = mkF m 0 #[.val (.ref a), .val (.int (0 : Int32)), .val (.ref b), .val (.int (0 : Int32)), .val (.int (2 : Int32)), .unset, .unset] [] := by first | (simp [entryFrame, mkF, argsToLocals, Value.category]; done) | rfl
def Q_rm_cp5 (Z : State) (a : Addr) (ka : ClassId) (c0 : Int32) (c1 : Int32) (b : Addr) (kb : ClassId) (h0 : Heap) (n0 : Nat) (v : Option Value) (h : Heap) (L : List Loc) : Prop := v = some (.int (2 : Int32)) ∧ Fr n0 L ∧ Keep h0 h [b] ∧ Arv Z h b kb .byte (2 : Int32) [(.int c0.toInt8.toInt32.toInt8.toInt32), (.int c1.toInt8.toInt32.toInt8.toInt32)] (.int (0 : Int32))
theorem own_d41_0 : decode jdk_52_method_21_code 0 = .ok (.iconst 0, 1) := by decide +kernel
theorem own_d41_1 : decode jdk_52_method_21_code 1 = .ok (.istore 5, 2) := by decide +kernel
theorem own_d41_3 : decode jdk_52_method_21_code 3 = .ok (.iload 5, 2) := by decide +kernel
theorem own_d41_5 : decode jdk_52_method_21_code 5 = .ok (.iload 4, 2) := by decide +kernel
theorem own_d41_7 : decode jdk_52_method_21_code 7 = .ok (.if_icmp .ge 37, 3) := by decide +kernel
theorem own_d41_10 : decode jdk_52_method_21_code 10 = .ok (.aload_n 0, 1) := by decide +kernel
theorem own_d41_11 : decode jdk_52_method_21_code 11 = .ok (.iload_n 1, 1) := by decide +kernel
theorem own_d41_12 : decode jdk_52_method_21_code 12 = .ok (.caload, 1) := by decide +kernel
theorem own_d41_13 : decode jdk_52_method_21_code 13 = .ok (.istore 6, 2) := by decide +kernel
theorem own_d41_15 : decode jdk_52_method_21_code 15 = .ok (.iload 6, 2) := by decide +kernel
theorem own_d41_17 : decode jdk_52_method_21_code 17 = .ok (.sipush 255, 3) := by decide +kernel
theorem own_d41_20 : decode jdk_52_method_21_code 20 = .ok (.if_icmp .le 6, 3) := by decide +kernel
theorem own_d41_26 : decode jdk_52_method_21_code 26 = .ok (.aload_n 2, 1) := by decide +kernel
theorem own_d41_27 : decode jdk_52_method_21_code 27 = .ok (.iload_n 3, 1) := by decide +kernel
theorem own_d41_28 : decode jdk_52_method_21_code 28 = .ok (.iload 6, 2) := by decide +kernel
theorem own_d41_30 : decode jdk_52_method_21_code 30 = .ok (.i2b, 1) := by decide +kernel
theorem own_d41_31 : decode jdk_52_method_21_code 31 = .ok (.bastore, 1) := by decide +kernel
theorem own_d41_32 : decode jdk_52_method_21_code 32 = .ok (.iinc 1 1, 3) := by decide +kernel
theorem own_d41_35 : decode jdk_52_method_21_code 35 = .ok (.iinc 3 1, 3) := by decide +kernel
theorem own_d41_38 : decode jdk_52_method_21_code 38 = .ok (.iinc 5 1, 3) := by decide +kernel
theorem own_d41_41 : decode jdk_52_method_21_code 41 = .ok (.goto (-38), 3) := by decide +kernel
theorem own_d41_44 : decode jdk_52_method_21_code 44 = .ok (.iload 4, 2) := by decide +kernel
theorem own_d41_46 : decode jdk_52_method_21_code 46 = .ok (.ireturn, 1) := by decide +kernel
set_option maxRecDepth 65536 in
set_option maxHeartbeats 40000000 in
theorem rm_cp5 (l : Launch) (Z : State) (a0 : Array Value) (hw : ∀ d ∈ tables_1, d.before a0 Z = true) (ws : List Jvm.Cond) (a : Addr) (ka : ClassId) (c0 : Int32) (c1 : Int32) (b : Addr) (kb : ClassId) (h0 : Heap) (n0 : Nat) (Z0 : n0 ≤ h0.size) (A1 : Arv Z h0 a ka .char (2 : Int32) [(.int c0), (.int c1)] (.int (0 : Int32))) (hc0 : ¬ (255 : Int32) < c0) (hc1 : ¬ (255 : Int32) < c1) (A2 : Arv Z h0 b kb .byte (2 : Int32) [(.int (0 : Int32)), (.int (0 : Int32))] (.int (0 : Int32))) (g_b : n0 ≤ b) (ne_ab : a ≠ b) :
    MetFree l (⟨"java/lang/StringUTF16", "compress", "([CI[BII)I"⟩ : MethodName) (head1 (Jvm.Cond.code (⟨"java/lang/StringUTF16", "compress", "([CI[BII)I"⟩ : MethodName) jdk_52_method_21_code 7 (some .int) :: ws) ({ frames := 0, cells := 0, slots := 0, locals := 0 } : Room)) (fun aa U => aa = #[(.ref a), (.int (0 : Int32)), (.ref b), (.int (0 : Int32)), (.int (2 : Int32))] ∧ Z.Warmed39 U.vm ∧ U.heap = h0) (fun _ _ _ _ _ => True) (fun _ U ou U' => ∃ v L, ou = .returned v ∧ Q_rm_cp5 Z a ka c0 c1 b kb h0 n0 v U'.heap L ∧ FrameEnd U ou U' L ({ frames := 0, cells := 0, slots := 0, locals := 0 } : Room).cells ({ frames := 0, cells := 0, slots := 0, locals := 0 } : Room).slots) := by
  refine MetFree.of_bodySF (plainFor_of_name own_pn17) hisR ?_
  intro p e s m args below meth c s₁ Bd hml0 hP hK
  obtain ⟨rfl, hZ, hh⟩ := hP
  have hx := Bd.exec
  have hby := Bd.bytes
  have hml : c.maxLocals = 7 := hml0
  have hown : s.vm.findClass "java/lang/StringUTF16" = some m.cls := findClass_of_methodNamed Bd.named
  have hnm := (name_of_methodNamed Bd.named Bd.method).1
  have X0 : Stand p l e ({ frames := 0, cells := 0, slots := 0, locals := 0 } : Room) s m #[(.ref a), (.int (0 : Int32)), (.ref b), (.int (0 : Int32)), (.int (2 : Int32))] below meth c s₁ [] 0 0 := Stand.of_body Bd
  have e0 : s₁.heap = h0 := by rw [← hh, Bd.state]; rfl
  have N0 := Fr.nil n0
  have K0 := Keep.refl h0 [b]
  show own_Go p e below (fun o u L => FrameEnd s o u L ({ frames := 0, cells := 0, slots := 0, locals := 0 } : Room).cells ({ frames := 0, cells := 0, slots := 0, locals := 0 } : Room).slots) (Q_rm_cp5 Z a ka c0 c1 b kb h0 n0) (s₁.setTop (entryFrame m #[(.ref a), (.int (0 : Int32)), (.ref b), (.int (0 : Int32)), (.int (2 : Int32))] 7))
  rw [own_ef_rm_cp5 m a b]
  show own_Go _ _ _ _ _ (State.setTop _ (mkF _ 0 #[.val (.ref a), .val (.int (0 : Int32)), .val (.ref b), .val (.int (0 : Int32)), .val (.int (2 : Int32)), .unset, .unset] []))
  refine own_iconst X0 hx 1 rfl (hb hby own_d41_0) (0 : Int32) rfl ?_
  refine own_istore X0 hx 3 rfl (hb hby own_d41_1) #[.val (.ref a), .val (.int (0 : Int32)), .val (.ref b), .val (.int (0 : Int32)), .val (.int (2 : Int32)), .val (.int (0 : Int32)), .unset] rfl ?_
  refine own_iload X0 hx 5 rfl (hb hby own_d41_3) rfl ?_
  refine own_iload X0 hx 7 rfl (hb hby own_d41_5) rfl ?_
  refine own_icmpNo X0 hx 10 rfl (hb hby own_d41_7) (by decide) ?_
  refine own_aloadN X0 hx 11 rfl (hb hby own_d41_10) rfl rfl ?_
  refine own_iloadN X0 hx 12 rfl (hb hby own_d41_11) rfl ?_
  refine own_ldC X0 hx hZ e0 A1 ⟨by decide, by decide⟩ c0 rfl 13 rfl (hb hby own_d41_12) ?_
  refine own_istore X0 hx 15 rfl (hb hby own_d41_13) #[.val (.ref a), .val (.int (0 : Int32)), .val (.ref b), .val (.int (0 : Int32)), .val (.int (2 : Int32)), .val (.int (0 : Int32)), .val (.int c0)] rfl ?_
  refine own_iload X0 hx 17 rfl (hb hby own_d41_15) rfl ?_
  refine own_sipush X0 hx 20 rfl (hb hby own_d41_17) (255 : Int32) rfl ?_
  refine own_icmpYes X0 hx 26 (hb hby own_d41_20) (flt hc0).2.2.2 (by decide) rfl ?_
  refine own_aloadN X0 hx 27 rfl (hb hby own_d41_26) rfl rfl ?_
  refine own_iloadN X0 hx 28 rfl (hb hby own_d41_27) rfl ?_
  refine own_iload X0 hx 30 rfl (hb hby own_d41_28) rfl ?_
  refine own_i2b X0 hx 31 rfl (hb hby own_d41_30) _ rfl ?_
  refine own_stB X0 hx hZ e0 A2 ⟨by decide, by decide⟩ 0 rfl (Nat.le_of_ble_eq_true rfl) [(.int c0.toInt8.toInt32.toInt8.toInt32), (.int (0 : Int32))] rfl 32 rfl (hb hby own_d41_31) fun T635 h635 X635 e635 W635 f636 => ?_
  have f637 := A1.other W635 ne_ab
  have z638 := Nat.le_trans Z0 (Keep.of_wr W635).1
  have K639 := K0.wr W635 (Or.inl (List.mem_of_getElem? (i := 0) rfl))
  have N640 := Fr.snoc X635 N0 g_b
  refine own_iinc X635 hx 35 rfl (hb hby own_d41_32) rfl #[.val (.ref a), .val (.int (1 : Int32)), .val (.ref b), .val (.int (0 : Int32)), .val (.int (2 : Int32)), .val (.int (0 : Int32)), .val (.int c0)] rfl ?_
  refine own_iinc X635 hx 38 rfl (hb hby own_d41_35) rfl #[.val (.ref a), .val (.int (1 : Int32)), .val (.ref b), .val (.int (1 : Int32)), .val (.int (2 : Int32)), .val (.int (0 : Int32)), .val (.int c0)] rfl ?_
  refine own_iinc X635 hx 41 rfl (hb hby own_d41_38) rfl #[.val (.ref a), .val (.int (1 : Int32)), .val (.ref b), .val (.int (1 : Int32)), .val (.int (2 : Int32)), .val (.int (1 : Int32)), .val (.int c0)] rfl ?_
  refine own_goto X635 hx 3 (hb hby own_d41_41) (by decide) rfl ?_
  refine own_iload X635 hx 5 rfl (hb hby own_d41_3) rfl ?_
  refine own_iload X635 hx 7 rfl (hb hby own_d41_5) rfl ?_
  refine own_icmpNo X635 hx 10 rfl (hb hby own_d41_7) (by decide) ?_
  refine own_aloadN X635 hx 11 rfl (hb hby own_d41_10) rfl rfl ?_
  refine own_iloadN X635 hx 12 rfl (hb hby own_d41_11) rfl ?_
  refine own_ldC X635 hx hZ e635 f637 ⟨by decide, by decide⟩ c1 rfl 13 rfl (hb hby own_d41_12) ?_
  refine own_istore X635 hx 15 rfl (hb hby own_d41_13) #[.val (.ref a), .val (.int (1 : Int32)), .val (.ref b), .val (.int (1 : Int32)), .val (.int (2 : Int32)), .val (.int (1 : Int32)), .val (.int c1)] rfl ?_
  refine own_iload X635 hx 17 rfl (hb hby own_d41_15) rfl ?_
  refine own_sipush X635 hx 20 rfl (hb hby own_d41_17) (255 : Int32) rfl ?_
  refine own_icmpYes X635 hx 26 (hb hby own_d41_20) (flt hc1).2.2.2 (by decide) rfl ?_
  refine own_aloadN X635 hx 27 rfl (hb hby own_d41_26) rfl rfl ?_
  refine own_iloadN X635 hx 28 rfl (hb hby own_d41_27) rfl ?_
  refine own_iload X635 hx 30 rfl (hb hby own_d41_28) rfl ?_
  refine own_i2b X635 hx 31 rfl (hb hby own_d41_30) _ rfl ?_
  refine own_stB X635 hx hZ e635 f636 ⟨by decide, by decide⟩ 1 rfl (Nat.le_of_ble_eq_true rfl) [(.int c0.toInt8.toInt32.toInt8.toInt32), (.int c1.toInt8.toInt32.toInt8.toInt32)] rfl 32 rfl (hb hby own_d41_31) fun T641 h641 X641 e641 W641 f642 => ?_
  have f643 := f637.other W641 ne_ab
  have z644 := Nat.le_trans z638 (Keep.of_wr W641).1
  have K645 := K639.wr W641 (Or.inl (List.mem_of_getElem? (i := 0) rfl))
  have N646 := Fr.snoc X641 N640 g_b
  refine own_iinc X641 hx 35 rfl (hb hby own_d41_32) rfl #[.val (.ref a), .val (.int (2 : Int32)), .val (.ref b), .val (.int (1 : Int32)), .val (.int (2 : Int32)), .val (.int (1 : Int32)), .val (.int c1)] rfl ?_
  refine own_iinc X641 hx 38 rfl (hb hby own_d41_35) rfl #[.val (.ref a), .val (.int (2 : Int32)), .val (.ref b), .val (.int (2 : Int32)), .val (.int (2 : Int32)), .val (.int (1 : Int32)), .val (.int c1)] rfl ?_
  refine own_iinc X641 hx 41 rfl (hb hby own_d41_38) rfl #[.val (.ref a), .val (.int (2 : Int32)), .val (.ref b), .val (.int (2 : Int32)), .val (.int (2 : Int32)), .val (.int (2 : Int32)), .val (.int c1)] rfl ?_
  refine own_goto X641 hx 3 (hb hby own_d41_41) (by decide) rfl ?_
  refine own_iload X641 hx 5 rfl (hb hby own_d41_3) rfl ?_
  refine own_iload X641 hx 7 rfl (hb hby own_d41_5) rfl ?_
  refine own_icmpYes X641 hx 44 (hb hby own_d41_7) (by decide) (by decide) rfl ?_
  refine own_iload X641 hx 46 rfl (hb hby own_d41_44) rfl ?_
  refine own_ret X641 (some (.int (2 : Int32))) (fun h => by rw [Bd.returns] at h; cases h) Bd.notSynchronized (by decide) (by decide) ?_ (fun fs hr => own_retI X641 hx Bd.returns (hb hby own_d41_46) hr)
  show Q_rm_cp5 Z a ka c0 c1 b kb h0 n0 _ T641.heap _
  rw [e641]
  exact ⟨rfl, N646, K645, f642⟩
theorem own_ef_rm_cp3 (m : MethodId) (a : Addr) : entryFrame m #[(.ref a), (.int (0 : Int32)), (.int (2 : Int32))] 6 = mkF m 0 #[.val (.ref a), .val (.int (0 : Int32)), .val (.int (2 : Int32)), .unset, .unset, .unset] [] := by first | (simp [entryFrame, mkF, argsToLocals, Value.category]; done) | rfl
def Q_rm_cp3 (Z : State) (a : Addr) (ka : ClassId) (c0 : Int32) (c1 : Int32) (h0 : Heap) (n0 : Nat) (v : Option Value) (h : Heap) (L : List Loc) : Prop := ∃ (b : Addr) (kb : ClassId), v = some (.ref b) ∧ Fr n0 L ∧ Keep h0 h [] ∧ h0.size ≤ b ∧ Arv Z h b kb .byte (2 : Int32) [(.int c0.toInt8.toInt32.toInt8.toInt32), (.int c1.toInt8.toInt32.toInt8.toInt32)] (.int (0 : Int32))
theorem own_d40_0 : decode jdk_52_method_16_code 0 = .ok (.iload_n 2, 1) := by decide +kernel
theorem own_d40_1 : decode jdk_52_method_16_code 1 = .ok (.newarray .byte, 2) := by decide +kernel
theorem own_d40_3 : decode jdk_52_method_16_code 3 = .ok (.astore_n 3, 1) := by decide +kernel
theorem own_d40_4 : decode jdk_52_method_16_code 4 = .ok (.aload_n 0, 1) := by decide +kernel
theorem own_d40_5 : decode jdk_52_method_16_code 5 = .ok (.iload_n 1, 1) := by decide +kernel
theorem own_d40_6 : decode jdk_52_method_16_code 6 = .ok (.aload_n 3, 1) := by decide +kernel
theorem own_d40_7 : decode jdk_52_method_16_code 7 = .ok (.iconst 0, 1) := by decide +kernel
theorem own_d40_8 : decode jdk_52_method_16_code 8 = .ok (.iload_n 2, 1) := by decide +kernel
theorem own_d40_9 : decode jdk_52_method_16_code 9 = .ok (.invokestatic 115, 3) := by decide +kernel
theorem own_pd16 : parseMethodDescriptor "([CI[BII)I" = some ⟨[(.array .char), .int, (.array .byte), .int, .int], some .int⟩ := by decide +kernel
theorem own_d40_12 : decode jdk_52_method_16_code 12 = .ok (.istore 4, 2) := by decide +kernel
theorem own_d40_14 : decode jdk_52_method_16_code 14 = .ok (.iload 4, 2) := by decide +kernel
theorem own_d40_16 : decode jdk_52_method_16_code 16 = .ok (.iload_n 2, 1) := by decide +kernel
theorem own_d40_17 : decode jdk_52_method_16_code 17 = .ok (.if_icmp .eq 40, 3) := by decide +kernel
theorem own_d40_57 : decode jdk_52_method_16_code 57 = .ok (.aload_n 3, 1) := by decide +kernel
theorem own_d40_58 : decode jdk_52_method_16_code 58 = .ok (.areturn, 1) := by decide +kernel
set_option maxRecDepth 65536 in
set_option maxHeartbeats 40000000 in
theorem rm_cp3 (l : Launch) (Z : State) (a0 : Array Value) (hw : ∀ d ∈ tables_1, d.before a0 Z = true) (ws : List Jvm.Cond) (a : Addr) (ka : ClassId) (c0 : Int32) (c1 : Int32) (h0 : Heap) (n0 : Nat) (Z0 : n0 ≤ h0.size) (A1 : Arv Z h0 a ka .char (2 : Int32) [(.int c0), (.int c1)] (.int (0 : Int32))) (hc0 : ¬ (255 : Int32) < c0) (hc1 : ¬ (255 : Int32) < c1) :
    MetFree l (⟨"java/lang/StringUTF16", "compress", "([CII)[B"⟩ : MethodName) (head1 (Jvm.Cond.code (⟨"java/lang/StringUTF16", "compress", "([CII)[B"⟩ : MethodName) jdk_52_method_16_code 6 (some (.array .byte)) :: ws) ({ frames := 1, cells := 1, slots := 2, locals := 20 } : Room)) (fun aa U => aa = #[(.ref a), (.int (0 : Int32)), (.int (2 : Int32))] ∧ Z.Warmed39 U.vm ∧ U.heap = h0) (fun _ _ _ _ _ => True) (fun _ U ou U' => ∃ v L, ou = .returned v ∧ Q_rm_cp3 Z a ka c0 c1 h0 n0 v U'.heap L ∧ FrameEnd U ou U' L ({ frames := 1, cells := 1, slots := 2, locals := 20 } : Room).cells ({ frames := 1, cells := 1, slots := 2, locals := 20 } : Room).slots) := by
  refine MetFree.of_bodySF (plainFor_of_name own_pn17) hisR ?_
  intro p e s m args below meth c s₁ Bd hml0 hP hK
  obtain ⟨rfl, hZ, hh⟩ := hP
  have hx := Bd.exec
  have hby := Bd.bytes
  have hml : c.maxLocals = 6 := hml0
  have hown : s.vm.findClass "java/lang/StringUTF16" = some m.cls := findClass_of_methodNamed Bd.named
  have hnm := (name_of_methodNamed Bd.named Bd.method).1
  have X0 : Stand p l e ({ frames := 1, cells := 1, slots := 2, locals := 20 } : Room) s m #[(.ref a), (.int (0 : Int32)), (.int (2 : Int32))] below meth c s₁ [] 0 0 := Stand.of_body Bd
  have e0 : s₁.heap = h0 := by rw [← hh, Bd.state]; rfl
  have N0 := Fr.nil n0
  have K0 := Keep.refl h0 []
  show own_Go p e below (fun o u L => FrameEnd s o u L ({ frames := 1, cells := 1, slots := 2, locals := 20 } : Room).cells ({ frames := 1, cells := 1, slots := 2, locals := 20 } : Room).slots) (Q_rm_cp3 Z a ka c0 c1 h0 n0) (s₁.setTop (entryFrame m #[(.ref a), (.int (0 : Int32)), (.int (2 : Int32))] 6))
  rw [own_ef_rm_cp3 m a]
  show own_Go _ _ _ _ _ (State.setTop _ (mkF _ 0 #[.val (.ref a), .val (.int (0 : Int32)), .val (.int (2 : Int32)), .unset, .unset, .unset] []))
  refine own_iloadN X0 hx 1 rfl (hb hby own_d40_0) rfl ?_
  refine own_newA X0 hx hZ (own_hw hw 15 rfl) e0 3 rfl (hb hby own_d40_1) (by decide) 2 (by decide) (by decide) (by decide) (by decide) "[B" (by decide) fun T647 h647 k647 b647 g647 X647 e647 E647 A647 C647 => ?_
  have ne648 : a ≠ b647 := Nat.ne_of_lt (Nat.lt_of_lt_of_le A1.lt (Nat.le_of_eq g647.symm))
  have ge649 : n0 ≤ b647 := Nat.le_trans Z0 (Nat.le_of_eq g647.symm)
  have sz650 : h0.size ≤ b647 := Nat.le_trans K0.1 (Nat.le_of_eq g647.symm)
  have f651 := A1.ext E647
  have z652 := Nat.le_trans Z0 E647.1
  have K653 := K0.ext E647
  have f654 : Arv Z h647 b647 k647 .byte (2 : Int32) [(.int (0 : Int32)), (.int (0 : Int32))] (.int (0 : Int32)) := (Arv.new A647 (by decide)).pad (pad_rep [] (.int (0 : Int32)) 2)
  refine own_astoreN X647 hx 4 rfl (hb hby own_d40_3) rfl #[.val (.ref a), .val (.int (0 : Int32)), .val (.int (2 : Int32)), .val (.ref b647), .unset, .unset] rfl ?_
  refine own_aloadN X647 hx 5 rfl (hb hby own_d40_4) rfl rfl ?_
  refine own_iloadN X647 hx 6 rfl (hb hby own_d40_5) rfl ?_
  refine own_aloadN X647 hx 7 rfl (hb hby own_d40_6) rfl rfl ?_
  refine own_iconst X647 hx 8 rfl (hb hby own_d40_7) (0 : Int32) rfl ?_
  refine own_iloadN X647 hx 9 rfl (hb hby own_d40_8) rfl ?_
  refine own_callS X647 hx hZ (y := (⟨"java/lang/StringUTF16", "compress", "([CI[BII)I"⟩ : MethodName)) hown (own_hw hw 269 rfl) (own_hw hw 270 rfl) (by decide) (rm_cp5 l Z a0 hw [] a ka c0 c1 b647 k647 h647 n0 z652 f651 hc0 hc1 f654 ge649 ne648) (own_hw hw 271 rfl) (own_hw hw 267 rfl) (by decide) e647 (by rw [hml]; rfl) [(.ref a), (.int (0 : Int32)), (.ref b647), (.int (0 : Int32)), (.int (2 : Int32))] 0 (by decide) (Nat.le_of_eq rfl) (by decide) (by decide) (lenOf own_pd16 rfl) rfl rfl 12 rfl (hb hby own_d40_9) fun v655 T655 Lc655 X655 hQ655 => ?_
  obtain ⟨rfl, Nq655, Kq655, f656⟩ := hQ655
  have N657 := Fr.app N0 Nq655
  have f658 := f651.keep Kq655 (ninS ne648 nin0)
  have f659 := C647.keep Kq655
  have z661 := Nat.le_trans z652 Kq655.1
  have K662 := K653.trans Kq655 (allS (Or.inr sz650) all0)
  show own_Go _ _ _ _ _ (State.setTop _ (mkF _ 12 _ [(.int (2 : Int32))]))
  refine own_istore X655 hx 14 rfl (hb hby own_d40_12) #[.val (.ref a), .val (.int (0 : Int32)), .val (.int (2 : Int32)), .val (.ref b647), .val (.int (2 : Int32)), .unset] rfl ?_
  refine own_iload X655 hx 16 rfl (hb hby own_d40_14) rfl ?_
  refine own_iloadN X655 hx 17 rfl (hb hby own_d40_16) rfl ?_
  refine own_icmpYes X655 hx 57 (hb hby own_d40_17) (by decide) (by decide) rfl ?_
  refine own_aloadN X655 hx 58 rfl (hb hby own_d40_57) rfl rfl ?_
  refine own_ret X655 (some (.ref b647)) (fun h => by rw [Bd.returns] at h; cases h) Bd.notSynchronized (by decide) (by decide) ?_ (fun fs hr => own_retR X655 hx Bd.returns rfl rfl (hb hby own_d40_58) hr)
  show Q_rm_cp3 Z a ka c0 c1 h0 n0 _ T655.heap _
  exact ⟨b647, k647, rfl, N657, K662, sz650, f656⟩
theorem own_ef_rm_cfl (m : MethodId) (b : Addr) : entryFrame m #[(.ref b), (.int (2 : Int32))] 2 = mkF m 0 #[.val (.ref b), .val (.int (2 : Int32))] [] := by first | (simp [entryFrame, mkF, argsToLocals, Value.category]; done) | rfl
def Q_rm_cfl (Z : State) (b : Addr) (kb : ClassId) (x0 : Value) (x1 : Value) (h0 : Heap) (n0 : Nat) (v : Option Value) (h : Heap) (L : List Loc) : Prop := v = some (.int (0 : Int32)) ∧ Fr n0 L ∧ h = h0
theorem own_d42_0 : decode jdk_52_method_15_code 0 = .ok (.iload_n 1, 1) := by decide +kernel
theorem own_d42_1 : decode jdk_52_method_15_code 1 = .ok (.aload_n 0, 1) := by decide +kernel
theorem own_d42_2 : decode jdk_52_method_15_code 2 = .ok (.arraylength, 1) := by decide +kernel
theorem own_d42_3 : decode jdk_52_method_15_code 3 = .ok (.isub, 1) := by decide +kernel
theorem own_d42_4 : decode jdk_52_method_15_code 4 = .ok (.bipush 31, 2) := by decide +kernel
theorem own_d42_6 : decode jdk_52_method_15_code 6 = .ok (.iushr, 1) := by decide +kernel
theorem own_d42_7 : decode jdk_52_method_15_code 7 = .ok (.i2b, 1) := by decide +kernel
theorem own_d42_8 : decode jdk_52_method_15_code 8 = .ok (.ireturn, 1) := by decide +kernel
set_option maxRecDepth 65536 in
set_option maxHeartbeats 40000000 in
theorem rm_cfl (l : Launch) (Z : State) (a0 : Array Value) (hw : ∀ d ∈ tables_1, d.before a0 Z = true) (ws : List Jvm.Cond) (b : Addr) (kb : ClassId) (x0 : Value) (x1 : Value) (h0 : Heap) (n0 : Nat) (Z0 : n0 ≤ h0.size) (A2 : Arv Z h0 b kb .byte (2 : Int32) [x0, x1] (.int (0 : Int32))) :
    MetFree l (⟨"java/lang/StringUTF16", "coderFromArrayLen", "([BI)B"⟩ : MethodName) (head1 (Jvm.Cond.code (⟨"java/lang/StringUTF16", "coderFromArrayLen", "([BI)B"⟩ : MethodName) jdk_52_method_15_code 2 (some .byte) :: ws) ({ frames := 0, cells := 0, slots := 0, locals := 0 } : Room)) (fun aa U => aa = #[(.ref b), (.int (2 : Int32))] ∧ Z.Warmed39 U.vm ∧ U.heap = h0) (fun _ _ _ _ _ => True) (fun _ U ou U' => ∃ v L, ou = .returned v ∧ Q_rm_cfl Z b kb x0 x1 h0 n0 v U'.heap L ∧ FrameEnd U ou U' L ({ frames := 0, cells := 0, slots := 0, locals := 0 } : Room).cells ({ frames := 0, cells := 0, slots := 0, locals := 0 } : Room).slots) := by
  refine MetFree.of_bodySF (plainFor_of_name own_pn17) hisR ?_
  intro p e s m args below meth c s₁ Bd hml0 hP hK
  obtain ⟨rfl, hZ, hh⟩ := hP
  have hx := Bd.exec
  have hby := Bd.bytes
  have hml : c.maxLocals = 2 := hml0
  have hown : s.vm.findClass "java/lang/StringUTF16" = some m.cls := findClass_of_methodNamed Bd.named
  have hnm := (name_of_methodNamed Bd.named Bd.method).1
  have X0 : Stand p l e ({ frames := 0, cells := 0, slots := 0, locals := 0 } : Room) s m #[(.ref b), (.int (2 : Int32))] below meth c s₁ [] 0 0 := Stand.of_body Bd
  have e0 : s₁.heap = h0 := by rw [← hh, Bd.state]; rfl
  have N0 := Fr.nil n0
  show own_Go p e below (fun o u L => FrameEnd s o u L ({ frames := 0, cells := 0, slots := 0, locals := 0 } : Room).cells ({ frames := 0, cells := 0, slots := 0, locals := 0 } : Room).slots) (Q_rm_cfl Z b kb x0 x1 h0 n0) (s₁.setTop (entryFrame m #[(.ref b), (.int (2 : Int32))] 2))
  rw [own_ef_rm_cfl m b]
  show own_Go _ _ _ _ _ (State.setTop _ (mkF _ 0 #[.val (.ref b), .val (.int (2 : Int32))] []))
  refine own_iloadN X0 hx 1 rfl (hb hby own_d42_0) rfl ?_
  refine own_aloadN X0 hx 2 rfl (hb hby own_d42_1) rfl rfl ?_
  refine own_len X0 hx hZ e0 A2 3 rfl (hb hby own_d42_2) ?_
  refine own_isub X0 hx 4 rfl (hb hby own_d42_3) (0 : Int32) rfl ?_
  refine own_bipush X0 hx 6 rfl (hb hby own_d42_4) (31 : Int32) rfl ?_
  refine own_iushr X0 hx 7 rfl (hb hby own_d42_6) (0 : Int32) (by decide) ?_
  refine own_i2b X0 hx 8 rfl (hb hby own_d42_7) (0 : Int32) (by decide) ?_
  refine own_ret X0 (some (.int (0 : Int32))) (fun h => by rw [Bd.returns] at h; cases h) Bd.notSynchronized (by decide) (by decide) ?_ (fun fs hr => retN X0 hx (t := .byte) Bd.returns (by simp) (hb hby own_d42_8) hr)
  show Q_rm_cfl Z b kb x0 x1 h0 n0 _ s₁.heap _
  rw [e0]
  exact ⟨rfl, N0, rfl⟩
theorem own_ef_rm_str4 (m : MethodId) (o : Addr) (a : Addr) : entryFrame m #[(.ref o), (.ref a), (.int (0 : Int32)), (.int (2 : Int32)), .null] 6 = mkF m 0 #[.val (.ref o), .val (.ref a), .val (.int (0 : Int32)), .val (.int (2 : Int32)), .val .null, .unset] [] := by first | (simp [entryFrame, mkF, argsToLocals, Value.category]; done) | rfl
def Q_rm_str4 (Z : State) (o : Addr) (a : Addr) (ka : ClassId) (c0 : Int32) (c1 : Int32) (cs : Int32) (h0 : Heap) (n0 : Nat) (v : Option Value) (h : Heap) (L : List Loc) : Prop := v = none ∧ Fr n0 L ∧ Keep h0 h [o] ∧ Exa Z h o "java/lang/String"
theorem own_d39_0 : decode jdk_42_method_149_code 0 = .ok (.aload_n 0, 1) := by decide +kernel
theorem own_d39_1 : decode jdk_42_method_149_code 1 = .ok (.invokespecial 1, 3) := by decide +kernel
theorem own_d39_4 : decode jdk_42_method_149_code 4 = .ok (.iload_n 3, 1) := by decide +kernel
theorem own_d39_5 : decode jdk_42_method_149_code 5 = .ok (.ifCond .ne 22, 3) := by decide +kernel
theorem own_d39_27 : decode jdk_42_method_149_code 27 = .ok (.getstatic 38, 3) := by decide +kernel
theorem own_d39_30 : decode jdk_42_method_149_code 30 = .ok (.ifCond .eq 28, 3) := by decide +kernel
theorem own_d39_33 : decode jdk_42_method_149_code 33 = .ok (.aload_n 1, 1) := by decide +kernel
theorem own_d39_34 : decode jdk_42_method_149_code 34 = .ok (.iload_n 2, 1) := by decide +kernel
theorem own_d39_35 : decode jdk_42_method_149_code 35 = .ok (.iload_n 3, 1) := by decide +kernel
theorem own_d39_36 : decode jdk_42_method_149_code 36 = .ok (.invokestatic 177, 3) := by decide +kernel
theorem own_pd17 : parseMethodDescriptor "([CII)[B" = some ⟨[(.array .char), .int, .int], some (.array .byte)⟩ := by decide +kernel
theorem own_d39_39 : decode jdk_42_method_149_code 39 = .ok (.astore 5, 2) := by decide +kernel
theorem own_d39_41 : decode jdk_42_method_149_code 41 = .ok (.aload_n 0, 1) := by decide +kernel
theorem own_d39_42 : decode jdk_42_method_149_code 42 = .ok (.aload 5, 2) := by decide +kernel
theorem own_d39_44 : decode jdk_42_method_149_code 44 = .ok (.iload_n 3, 1) := by decide +kernel
theorem own_d39_45 : decode jdk_42_method_149_code 45 = .ok (.invokestatic 47, 3) := by decide +kernel
theorem own_pd18 : parseMethodDescriptor "([BI)B" = some ⟨[(.array .byte), .int], some .byte⟩ := by decide +kernel
theorem own_d39_48 : decode jdk_42_method_149_code 48 = .ok (.putfield 15, 3) := by decide +kernel
theorem own_d39_51 : decode jdk_42_method_149_code 51 = .ok (.aload_n 0, 1) := by decide +kernel
theorem own_d39_52 : decode jdk_42_method_149_code 52 = .ok (.aload 5, 2) := by decide +kernel
theorem own_d39_54 : decode jdk_42_method_149_code 54 = .ok (.putfield 9, 3) := by decide +kernel
theorem own_d39_57 : decode jdk_42_method_149_code 57 = .ok (.return_, 1) := by decide +kernel
set_option maxRecDepth 65536 in
set_option maxHeartbeats 40000000 in
theorem rm_str4 (l : Launch) (Z : State) (a0 : Array Value) (hw : ∀ d ∈ tables_1, d.before a0 Z = true) (ws : List Jvm.Cond) (o : Addr) (a : Addr) (ka : ClassId) (c0 : Int32) (c1 : Int32) (cs : Int32) (h0 : Heap) (n0 : Nat) (Z0 : n0 ≤ h0.size) (E1 : Exa Z h0 o "java/lang/String") (F1 : Fld Z h0 o "java/lang/String" "value" "[B" .null) (F2 : Fld Z h0 o "java/lang/String" "coder" "B" (.int (0 : Int32))) (g_o : n0 ≤ o) (A1 : Arv Z h0 a ka .char (2 : Int32) [(.int c0), (.int c1)] (.int (0 : Int32))) (hc0 : ¬ (255 : Int32) < c0) (hc1 : ¬ (255 : Int32) < c1) (ne_oa : o ≠ a) (S1 : Sta Z h0 "java/lang/String" "COMPACT_STRINGS" "Z" (.int cs)) (hcs : ¬ cs = 0) :
    MetFree l (⟨"java/lang/String", "<init>", "([CIILjava/lang/Void;)V"⟩ : MethodName) (head1 (Jvm.Cond.code (⟨"java/lang/String", "<init>", "([CIILjava/lang/Void;)V"⟩ : MethodName) jdk_42_method_149_code 6 none :: ws) ({ frames := 2, cells := 1, slots := 2, locals := 45 } : Room)) (fun aa U => aa = #[(.ref o), (.ref a), (.int (0 : Int32)), (.int (2 : Int32)), .null] ∧ Z.Warmed39 U.vm ∧ U.heap = h0) (fun _ _ _ _ _ => True) (fun _ U ou U' => ∃ v L, ou = .returned v ∧ Q_rm_str4 Z o a ka c0 c1 cs h0 n0 v U'.heap L ∧ FrameEnd U ou U' L ({ frames := 2, cells := 1, slots := 2, locals := 45 } : Room).cells ({ frames := 2, cells := 1, slots := 2, locals := 45 } : Room).slots) := by
  refine MetFree.of_bodySF (plainFor_of_name own_pn16) hisR ?_
  intro p e s m args below meth c s₁ Bd hml0 hP hK
  obtain ⟨rfl, hZ, hh⟩ := hP
  have hx := Bd.exec
  have hby := Bd.bytes
  have hml : c.maxLocals = 6 := hml0
  have hown : s.vm.findClass "java/lang/String" = some m.cls := findClass_of_methodNamed Bd.named
  have hnm := (name_of_methodNamed Bd.named Bd.method).1
  have X0 : Stand p l e ({ frames := 2, cells := 1, slots := 2, locals := 45 } : Room) s m #[(.ref o), (.ref a), (.int (0 : Int32)), (.int (2 : Int32)), .null] below meth c s₁ [] 0 0 := Stand.of_body Bd
  have e0 : s₁.heap = h0 := by rw [← hh, Bd.state]; rfl
  have N0 := Fr.nil n0
  have K0 := Keep.refl h0 [o]
  show own_Go p e below (fun o u L => FrameEnd s o u L ({ frames := 2, cells := 1, slots := 2, locals := 45 } : Room).cells ({ frames := 2, cells := 1, slots := 2, locals := 45 } : Room).slots) (Q_rm_str4 Z o a ka c0 c1 cs h0 n0) (s₁.setTop (entryFrame m #[(.ref o), (.ref a), (.int (0 : Int32)), (.int (2 : Int32)), .null] 6))
  rw [own_ef_rm_str4 m o a]
  show own_Go _ _ _ _ _ (State.setTop _ (mkF _ 0 #[.val (.ref o), .val (.ref a), .val (.int (0 : Int32)), .val (.int (2 : Int32)), .val .null, .unset] []))
  refine own_aloadN X0 hx 1 rfl (hb hby own_d39_0) rfl rfl ?_
  refine own_initO X0 hx hZ hown (own_hw hw 20 rfl) (own_hw hw 21 rfl) (own_hw hw 22 rfl) e0 (by rw [hml]; rfl) 4 rfl (hb hby own_d39_1) (by decide) 0 (Nat.le_of_eq rfl) (by decide) fun T663 X663 e663 => ?_
  refine own_iloadN X663 hx 5 rfl (hb hby own_d39_4) rfl ?_
  refine own_ifYes X663 hx 27 (hb hby own_d39_5) (by decide) (by decide) rfl ?_
  refine own_getS X663 hx hZ (host := "") hown (Or.inl (own_hw hw 5 rfl)) Via.refl e663 S1 30 rfl (hb hby own_d39_27) fun T664 X664 e664 => ?_
  refine own_ifNo X664 hx 33 rfl (hb hby own_d39_30) ((if0 _ _).trans (feq hcs).1) ?_
  refine own_aloadN X664 hx 34 rfl (hb hby own_d39_33) rfl rfl ?_
  refine own_iloadN X664 hx 35 rfl (hb hby own_d39_34) rfl ?_
  refine own_iloadN X664 hx 36 rfl (hb hby own_d39_35) rfl ?_
  refine own_callS X664 hx hZ (y := (⟨"java/lang/StringUTF16", "compress", "([CII)[B"⟩ : MethodName)) hown (own_hw hw 265 rfl) (own_hw hw 266 rfl) (by decide) (rm_cp3 l Z a0 hw [] a ka c0 c1 h0 n0 Z0 A1 hc0 hc1) (own_hw hw 268 rfl) (own_hw hw 267 rfl) (by decide) e664 (by rw [hml]; rfl) [(.ref a), (.int (0 : Int32)), (.int (2 : Int32))] 0 (by decide) (Nat.le_of_eq rfl) (by decide) (by decide) (lenOf own_pd17 rfl) rfl rfl 39 rfl (hb hby own_d39_36) fun v665 T665 Lc665 X665 hQ665 => ?_
  obtain ⟨b_665, kb_665, rfl, Nq665, Kq665, sd0_665, f666⟩ := hQ665
  have N667 := Fr.app N0 Nq665
  have ne668 : o ≠ b_665 := Nat.ne_of_lt (Nat.lt_of_lt_of_le E1.lt sd0_665)
  have ne669 : a ≠ b_665 := Nat.ne_of_lt (Nat.lt_of_lt_of_le A1.lt sd0_665)
  have ge670 : n0 ≤ b_665 := Nat.le_trans Z0 sd0_665
  have sz671 : h0.size ≤ b_665 := Nat.le_trans K0.1 sd0_665
  have f672 := E1.keep Kq665
  have f673 := F1.keep Kq665 nin0
  have f674 := F2.keep Kq665 nin0
  have f675 := A1.keep Kq665 nin0
  have f676 := own_staKeep S1 Kq665 ns0
  have z677 := Nat.le_trans Z0 Kq665.1
  have K678 := K0.trans Kq665 all0
  show own_Go _ _ _ _ _ (State.setTop _ (mkF _ 39 _ [(.ref b_665)]))
  refine own_astore X665 hx 41 rfl (hb hby own_d39_39) rfl #[.val (.ref o), .val (.ref a), .val (.int (0 : Int32)), .val (.int (2 : Int32)), .val .null, .val (.ref b_665)] rfl ?_
  refine own_aloadN X665 hx 42 rfl (hb hby own_d39_41) rfl rfl ?_
  refine own_aload X665 hx 44 rfl (hb hby own_d39_42) rfl rfl ?_
  refine own_iloadN X665 hx 45 rfl (hb hby own_d39_44) rfl ?_
  refine own_callS X665 hx hZ (y := (⟨"java/lang/StringUTF16", "coderFromArrayLen", "([BI)B"⟩ : MethodName)) hown (own_hw hw 272 rfl) (own_hw hw 273 rfl) (by decide) (rm_cfl l Z a0 hw [] b_665 kb_665 (.int c0.toInt8.toInt32.toInt8.toInt32) (.int c1.toInt8.toInt32.toInt8.toInt32) T665.heap n0 z677 f666) (own_hw hw 274 rfl) (own_hw hw 267 rfl) (by decide) rfl (by rw [hml]; rfl) [(.ref b_665), (.int (2 : Int32))] 1 (by decide) (Nat.le_of_eq rfl) (by decide) (by decide) (lenOf own_pd18 rfl) rfl rfl 48 rfl (hb hby own_d39_45) fun v679 T679 Lc679 X679 hQ679 => ?_
  obtain ⟨rfl, Nq679, e679⟩ := hQ679
  have N680 := Fr.app N667 Nq679
  show own_Go _ _ _ _ _ (State.setTop _ (mkF _ 48 _ [(.int (0 : Int32)), (.ref o)]))
  refine own_putFN X679 hx hZ hown (own_hw hw 25 rfl) Via.refl e679 f674 f672 (Or.inr ⟨(own_hw hw 26 rfl), rfl, hnm⟩) (own_hw hw 11 rfl) (ty := .byte) (v' := (.int (0 : Int32))) (by decide) rfl rfl 51 rfl (hb hby own_d39_48) fun T681 h681 X681 e681 W681 => ?_
  have f682 := f672.wr W681
  have f683 := f673.other W681 (Or.inr (slot_ne (Or.inr (own_hw hw 24 rfl)) (Or.inr (own_hw hw 26 rfl)) (by decide) (t := (.array .byte)) (t' := .byte) (by decide) (by decide)))
  have f684 := f675.other W681 (Ne.symm ne_oa)
  have f685 := f676.wr W681
  have f686 := f666.other W681 (Ne.symm ne668)
  have z687 := Nat.le_trans z677 (Keep.of_wr W681).1
  have K688 := K678.wr W681 (Or.inl (List.mem_of_getElem? (i := 0) rfl))
  have f689 := f674.same W681
  have N690 := Fr.snoc X681 N680 g_o
  refine own_aloadN X681 hx 52 rfl (hb hby own_d39_51) rfl rfl ?_
  refine own_aload X681 hx 54 rfl (hb hby own_d39_52) rfl rfl ?_
  refine own_putF X681 hx hZ (host := "") hown (Or.inl (own_hw hw 23 rfl)) Via.refl e681 f683 f682 (Or.inr ⟨(own_hw hw 24 rfl), rfl, hnm⟩) (own_hw hw 11 rfl) (ty := (.array .byte)) (by decide) rfl rfl 57 rfl (hb hby own_d39_54) fun T691 h691 X691 e691 W691 => ?_
  have f692 := f682.wr W691
  have f693 := f684.other W691 (Ne.symm ne_oa)
  have f694 := f685.wr W691
  have f695 := f686.other W691 (Ne.symm ne668)
  have f696 := f689.other W691 (Or.inr (slot_ne (Or.inr (own_hw hw 26 rfl)) (Or.inr (own_hw hw 24 rfl)) (by decide) (t := .byte) (t' := (.array .byte)) (by decide) (by decide)))
  have z697 := Nat.le_trans z687 (Keep.of_wr W691).1
  have K698 := K688.wr W691 (Or.inl (List.mem_of_getElem? (i := 0) rfl))
  have f699 := f683.same W691
  have N700 := Fr.snoc X691 N690 g_o
  refine own_ret X691 none (fun _ => rfl) Bd.notSynchronized (by decide) (by decide) ?_ (fun fs hr => X691.returnOut hx Bd.returns (hb hby own_d39_57) hr)
  show Q_rm_str4 Z o a ka c0 c1 cs h0 n0 _ T691.heap _
  rw [e691]
  exact ⟨rfl, N700, K698, f692⟩
theorem own_ef_rm_str1 (m : MethodId) (o : Addr) (a : Addr) : entryFrame m #[(.ref o), (.ref a)] 2 = mkF m 0 #[.val (.ref o), .val (.ref a)] [] := by first | (simp [entryFrame, mkF, argsToLocals, Value.category]; done) | rfl
def Q_rm_str1 (Z : State) (o : Addr) (a : Addr) (ka : ClassId) (c0 : Int32) (c1 : Int32) (cs : Int32) (h0 : Heap) (n0 : Nat) (v : Option Value) (h : Heap) (L : List Loc) : Prop := v = none ∧ Fr n0 L ∧ Keep h0 h [o] ∧ Exa Z h o "java/lang/String"
theorem own_d38_0 : decode jdk_42_method_3_code 0 = .ok (.aload_n 0, 1) := by decide +kernel
theorem own_d38_1 : decode jdk_42_method_3_code 1 = .ok (.aload_n 1, 1) := by decide +kernel
theorem own_d38_2 : decode jdk_42_method_3_code 2 = .ok (.iconst 0, 1) := by decide +kernel
theorem own_d38_3 : decode jdk_42_method_3_code 3 = .ok (.aload_n 1, 1) := by decide +kernel
theorem own_d38_4 : decode jdk_42_method_3_code 4 = .ok (.arraylength, 1) := by decide +kernel
theorem own_d38_5 : decode jdk_42_method_3_code 5 = .ok (.aconst_null, 1) := by decide +kernel
theorem own_d38_6 : decode jdk_42_method_3_code 6 = .ok (.invokespecial 27, 3) := by decide +kernel
theorem own_pd19 : parseMethodDescriptor "([CIILjava/lang/Void;)V" = some ⟨[(.array .char), .int, .int, (.object "java/lang/Void")], none⟩ := by decide +kernel
theorem own_d38_9 : decode jdk_42_method_3_code 9 = .ok (.return_, 1) := by decide +kernel
set_option maxRecDepth 65536 in
set_option maxHeartbeats 40000000 in
theorem rm_str1 (l : Launch) (Z : State) (a0 : Array Value) (hw : ∀ d ∈ tables_1, d.before a0 Z = true) (ws : List Jvm.Cond) (o : Addr) (a : Addr) (ka : ClassId) (c0 : Int32) (c1 : Int32) (cs : Int32) (h0 : Heap) (n0 : Nat) (Z0 : n0 ≤ h0.size) (E1 : Exa Z h0 o "java/lang/String") (F1 : Fld Z h0 o "java/lang/String" "value" "[B" .null) (F2 : Fld Z h0 o "java/lang/String" "coder" "B" (.int (0 : Int32))) (g_o : n0 ≤ o) (A1 : Arv Z h0 a ka .char (2 : Int32) [(.int c0), (.int c1)] (.int (0 : Int32))) (hc0 : ¬ (255 : Int32) < c0) (hc1 : ¬ (255 : Int32) < c1) (ne_oa : o ≠ a) (S1 : Sta Z h0 "java/lang/String" "COMPACT_STRINGS" "Z" (.int cs)) (hcs : ¬ cs = 0) :
    MetFree l (⟨"java/lang/String", "<init>", "([C)V"⟩ : MethodName) (head1 (Jvm.Cond.code (⟨"java/lang/String", "<init>", "([C)V"⟩ : MethodName) jdk_42_method_3_code 2 none :: ws) ({ frames := 3, cells := 1, slots := 2, locals := 65 } : Room)) (fun aa U => aa = #[(.ref o), (.ref a)] ∧ Z.Warmed39 U.vm ∧ U.heap = h0) (fun _ _ _ _ _ => True) (fun _ U ou U' => ∃ v L, ou = .returned v ∧ Q_rm_str1 Z o a ka c0 c1 cs h0 n0 v U'.heap L ∧ FrameEnd U ou U' L ({ frames := 3, cells := 1, slots := 2, locals := 65 } : Room).cells ({ frames := 3, cells := 1, slots := 2, locals := 65 } : Room).slots) := by
  refine MetFree.of_bodySF (plainFor_of_name own_pn16) hisR ?_
  intro p e s m args below meth c s₁ Bd hml0 hP hK
  obtain ⟨rfl, hZ, hh⟩ := hP
  have hx := Bd.exec
  have hby := Bd.bytes
  have hml : c.maxLocals = 2 := hml0
  have hown : s.vm.findClass "java/lang/String" = some m.cls := findClass_of_methodNamed Bd.named
  have hnm := (name_of_methodNamed Bd.named Bd.method).1
  have X0 : Stand p l e ({ frames := 3, cells := 1, slots := 2, locals := 65 } : Room) s m #[(.ref o), (.ref a)] below meth c s₁ [] 0 0 := Stand.of_body Bd
  have e0 : s₁.heap = h0 := by rw [← hh, Bd.state]; rfl
  have N0 := Fr.nil n0
  have K0 := Keep.refl h0 [o]
  show own_Go p e below (fun o u L => FrameEnd s o u L ({ frames := 3, cells := 1, slots := 2, locals := 65 } : Room).cells ({ frames := 3, cells := 1, slots := 2, locals := 65 } : Room).slots) (Q_rm_str1 Z o a ka c0 c1 cs h0 n0) (s₁.setTop (entryFrame m #[(.ref o), (.ref a)] 2))
  rw [own_ef_rm_str1 m o a]
  show own_Go _ _ _ _ _ (State.setTop _ (mkF _ 0 #[.val (.ref o), .val (.ref a)] []))
  refine own_aloadN X0 hx 1 rfl (hb hby own_d38_0) rfl rfl ?_
  refine own_aloadN X0 hx 2 rfl (hb hby own_d38_1) rfl rfl ?_
  refine own_iconst X0 hx 3 rfl (hb hby own_d38_2) (0 : Int32) rfl ?_
  refine own_aloadN X0 hx 4 rfl (hb hby own_d38_3) rfl rfl ?_
  refine own_len X0 hx hZ e0 A1 5 rfl (hb hby own_d38_4) ?_
  refine own_aconst_null X0 hx 6 rfl (hb hby own_d38_5) ?_
  refine own_special X0 hx hZ (y := (⟨"java/lang/String", "<init>", "([CIILjava/lang/Void;)V"⟩ : MethodName)) hown rfl (own_hw hw 262 rfl) (own_hw hw 263 rfl) (a := o) (by decide) rfl (rm_str4 l Z a0 hw [] o a ka c0 c1 cs h0 n0 Z0 E1 F1 F2 g_o A1 hc0 hc1 ne_oa S1 hcs) (own_hw hw 264 rfl) (own_hw hw 3 rfl) (by decide) e0 (by rw [hml]; rfl) [(.ref a), (.int (0 : Int32)), (.int (2 : Int32)), .null] 0 (by decide) (Nat.le_of_eq rfl) (by decide) (by decide) (lenOf own_pd19 rfl) rfl rfl 9 rfl (hb hby own_d38_6) fun v701 T701 Lc701 X701 hQ701 => ?_
  obtain ⟨rfl, Nq701, Kq701, f702⟩ := hQ701
  have N703 := Fr.app N0 Nq701
  have f704 := E1.keep Kq701
  have f707 := A1.keep Kq701 (ninS (Ne.symm ne_oa) nin0)
  have f708 := own_staKeep S1 Kq701 (nsS E1.nostat ns0)
  have z709 := Nat.le_trans Z0 Kq701.1
  have K710 := K0.trans Kq701 (allS (Or.inl (List.mem_of_getElem? (i := 0) rfl)) all0)
  show own_Go _ _ _ _ _ (State.setTop _ (mkF _ 9 _ []))
  refine own_ret X701 none (fun _ => rfl) Bd.notSynchronized (by decide) (by decide) ?_ (fun fs hr => X701.returnOut hx Bd.returns (hb hby own_d38_9) hr)
  show Q_rm_str1 Z o a ka c0 c1 cs h0 n0 _ T701.heap _
  exact ⟨rfl, N703, K710, f702⟩
theorem own_ef_rm_eq (m : MethodId) (o : Addr) (o : Addr) : entryFrame m #[(.ref o), (.ref o)] 3 = mkF m 0 #[.val (.ref o), .val (.ref o), .unset] [] := by first | (simp [entryFrame, mkF, argsToLocals, Value.category]; done) | rfl
def Q_rm_eq (Z : State) (o : Addr) (h0 : Heap) (n0 : Nat) (v : Option Value) (h : Heap) (L : List Loc) : Prop := v = some (.int (1 : Int32)) ∧ Fr n0 L ∧ h = h0
theorem own_d36_0 : decode jdk_42_method_66_code 0 = .ok (.aload_n 0, 1) := by decide +kernel
theorem own_d36_1 : decode jdk_42_method_66_code 1 = .ok (.aload_n 1, 1) := by decide +kernel
theorem own_d36_2 : decode jdk_42_method_66_code 2 = .ok (.if_acmp .ne 5, 3) := by decide +kernel
theorem own_d36_5 : decode jdk_42_method_66_code 5 = .ok (.iconst 1, 1) := by decide +kernel
theorem own_d36_6 : decode jdk_42_method_66_code 6 = .ok (.ireturn, 1) := by decide +kernel
set_option maxRecDepth 65536 in
set_option maxHeartbeats 40000000 in
theorem rm_eq (l : Launch) (Z : State) (a0 : Array Value) (hw : ∀ d ∈ tables_1, d.before a0 Z = true) (ws : List Jvm.Cond) (o : Addr) (h0 : Heap) (n0 : Nat) (Z0 : n0 ≤ h0.size)  :
    MetFree l (⟨"java/lang/String", "equals", "(Ljava/lang/Object;)Z"⟩ : MethodName) (head1 (Jvm.Cond.code (⟨"java/lang/String", "equals", "(Ljava/lang/Object;)Z"⟩ : MethodName) jdk_42_method_66_code 3 (some .boolean) :: ws) ({ frames := 0, cells := 0, slots := 0, locals := 0 } : Room)) (fun aa U => aa = #[(.ref o), (.ref o)] ∧ Z.Warmed39 U.vm ∧ U.heap = h0) (fun _ _ _ _ _ => True) (fun _ U ou U' => ∃ v L, ou = .returned v ∧ Q_rm_eq Z o h0 n0 v U'.heap L ∧ FrameEnd U ou U' L ({ frames := 0, cells := 0, slots := 0, locals := 0 } : Room).cells ({ frames := 0, cells := 0, slots := 0, locals := 0 } : Room).slots) := by
  refine MetFree.of_bodySF (plainFor_of_name own_pn16) hisR ?_
  intro p e s m args below meth c s₁ Bd hml0 hP hK
  obtain ⟨rfl, hZ, hh⟩ := hP
  have hx := Bd.exec
  have hby := Bd.bytes
  have hml : c.maxLocals = 3 := hml0
  have hown : s.vm.findClass "java/lang/String" = some m.cls := findClass_of_methodNamed Bd.named
  have hnm := (name_of_methodNamed Bd.named Bd.method).1
  have X0 : Stand p l e ({ frames := 0, cells := 0, slots := 0, locals := 0 } : Room) s m #[(.ref o), (.ref o)] below meth c s₁ [] 0 0 := Stand.of_body Bd
  have e0 : s₁.heap = h0 := by rw [← hh, Bd.state]; rfl
  have N0 := Fr.nil n0
  show own_Go p e below (fun o u L => FrameEnd s o u L ({ frames := 0, cells := 0, slots := 0, locals := 0 } : Room).cells ({ frames := 0, cells := 0, slots := 0, locals := 0 } : Room).slots) (Q_rm_eq Z o h0 n0) (s₁.setTop (entryFrame m #[(.ref o), (.ref o)] 3))
  rw [own_ef_rm_eq m o o]
  show own_Go _ _ _ _ _ (State.setTop _ (mkF _ 0 #[.val (.ref o), .val (.ref o), .unset] []))
  refine own_aloadN X0 hx 1 rfl (hb hby own_d36_0) rfl rfl ?_
  refine own_aloadN X0 hx 2 rfl (hb hby own_d36_1) rfl rfl ?_
  refine own_acmp X0 hx true 5 (hb hby own_d36_2) rfl rfl (decide_eq_true rfl) (by decide) (by decide) ?_
  refine own_iconst X0 hx 6 rfl (hb hby own_d36_5) (1 : Int32) rfl ?_
  refine own_ret X0 (some (.int (1 : Int32))) (fun h => by rw [Bd.returns] at h; cases h) Bd.notSynchronized (by decide) (by decide) ?_ (fun fs hr => retN X0 hx (t := .boolean) Bd.returns (by simp) (hb hby own_d36_6) hr)
  show Q_rm_eq Z o h0 n0 _ s₁.heap _
  rw [e0]
  exact ⟨rfl, N0, rfl⟩
theorem own_ef_rm_mean0 (m : MethodId) (o : Addr) (nm : Addr) (y1 : UInt64) : entryFrame m #[(.ref o), (.ref nm), (.double y1)] 4 = mkF m 0 #[.val (.ref o), .val (.ref nm), .val (.double y1), .second] [] := by first | (simp [entryFrame, mkF, argsToLocals, Value.category]; done) | rfl
def Q_rm_mean0 (Z : State) (o : Addr) (nm : Addr) (y1 : UInt64) (li : Addr) (mc : Int32) (aE : Addr) (kE : ClassId) (h0 : Heap) (n0 : Nat) (v : Option Value) (h : Heap) (L : List Loc) : Prop := ∃ (f : Addr) (r : Addr) (b : Addr) (kb : ClassId), v = some (.ref o) ∧ Fr n0 L ∧ Keep h0 h [li] ∧ h0.size ≤ f ∧ (r < n0 ∨ h0.size ≤ r) ∧ h0.size ≤ b ∧ f ≠ b ∧ r ≠ b ∧ Exa Z h f "com/example/measured_reasoner/measuredreasoner/Summary$Field" ∧ Fld Z h f "com/example/measured_reasoner/measuredreasoner/Summary$Field" "name" "Ljava/lang/String;" (.ref nm) ∧ Fld Z h f "com/example/measured_reasoner/measuredreasoner/Summary$Field" "value" "Ljava/lang/Number;" (.ref r) ∧ Exa Z h r "java/lang/Double" ∧ Fld Z h r "java/lang/Double" "value" "D" (.double y1) ∧ Exa Z h li "java/util/ArrayList" ∧ Fld Z h li "java/util/AbstractList" "modCount" "I" (.int (mc + (1 : Int32))) ∧ Fld Z h li "java/util/ArrayList" "elementData" "[Ljava/lang/Object;" (.ref b) ∧ Fld Z h li "java/util/ArrayList" "size" "I" (.int (1 : Int32)) ∧ Arv Z h b kb (.object "java/lang/Object") (10 : Int32) [(.ref f), .null, .null, .null, .null, .null, .null, .null, .null, .null] .null ∧ Ovr Z kb "java/lang/Object"
theorem own_d43_0 : decode prog_19_method_3_code 0 = .ok (.aload_n 0, 1) := by decide +kernel
theorem own_d43_1 : decode prog_19_method_3_code 1 = .ok (.getfield 10, 3) := by decide +kernel
theorem own_d43_4 : decode prog_19_method_3_code 4 = .ok (.new 16, 3) := by decide +kernel
theorem own_d43_7 : decode prog_19_method_3_code 7 = .ok (.dup, 1) := by decide +kernel
theorem own_d43_8 : decode prog_19_method_3_code 8 = .ok (.aload_n 1, 1) := by decide +kernel
theorem own_d43_9 : decode prog_19_method_3_code 9 = .ok (.dload_n 2, 1) := by decide +kernel
theorem own_d43_10 : decode prog_19_method_3_code 10 = .ok (.invokestatic 33, 3) := by decide +kernel
theorem own_pd20 : parseMethodDescriptor "(D)Ljava/lang/Double;" = some ⟨[.double], some (.object "java/lang/Double")⟩ := by decide +kernel
theorem own_d43_13 : decode prog_19_method_3_code 13 = .ok (.invokespecial 24, 3) := by decide +kernel
theorem own_pd21 : parseMethodDescriptor "(Ljava/lang/String;Ljava/lang/Number;)V" = some ⟨[(.object "java/lang/String"), (.object "java/lang/Number")], none⟩ := by decide +kernel
theorem own_d43_16 : decode prog_19_method_3_code 16 = .ok (.invokeinterface 27 2, 5) := by decide +kernel
theorem own_pd22 : parseMethodDescriptor "(Ljava/lang/Object;)Z" = some ⟨[(.object "java/lang/Object")], some .boolean⟩ := by decide +kernel
theorem own_d43_21 : decode prog_19_method_3_code 21 = .ok (.pop, 1) := by decide +kernel
theorem own_d43_22 : decode prog_19_method_3_code 22 = .ok (.aload_n 0, 1) := by decide +kernel
theorem own_d43_23 : decode prog_19_method_3_code 23 = .ok (.areturn, 1) := by decide +kernel
set_option maxRecDepth 65536 in
set_option maxHeartbeats 40000000 in
theorem rm_mean0 (l : Launch) (Z : State) (a0 : Array Value) (hw : ∀ d ∈ tables_1, d.before a0 Z = true) (ws : List Jvm.Cond) (o : Addr) (nm : Addr) (y1 : UInt64) (li : Addr) (mc : Int32) (aE : Addr) (kE : ClassId) (h0 : Heap) (n0 : Nat) (Z0 : n0 ≤ h0.size) (F0 : Fld Z h0 o "com/example/measured_reasoner/measuredreasoner/Summary" "fields" "Ljava/util/List;" (.ref li)) (E1 : Exa Z h0 li "java/util/ArrayList") (F1 : Fld Z h0 li "java/util/AbstractList" "modCount" "I" (.int mc)) (F2 : Fld Z h0 li "java/util/ArrayList" "elementData" "[Ljava/lang/Object;" (.ref aE)) (F3 : Fld Z h0 li "java/util/ArrayList" "size" "I" (.int (0 : Int32))) (A1 : Arv Z h0 aE kE (.object "java/lang/Object") (0 : Int32) [] .null) (S1 : Sta Z h0 "java/util/ArrayList" "DEFAULTCAPACITY_EMPTY_ELEMENTDATA" "[Ljava/lang/Object;" (.ref aE)) (ne_lE : li ≠ aE) (g_l : n0 ≤ li) :
    MetFree l (⟨"com/example/measured_reasoner/measuredreasoner/Summary", "mean", "(Ljava/lang/String;D)Lcom/example/measured_reasoner/measuredreasoner/Summary;"⟩ : MethodName) (head1 (Jvm.Cond.code (⟨"com/example/measured_reasoner/measuredreasoner/Summary", "mean", "(Ljava/lang/String;D)Lcom/example/measured_reasoner/measuredreasoner/Summary;"⟩ : MethodName) prog_19_method_3_code 4 (some (.object "com/example/measured_reasoner/measuredreasoner/Summary")) :: ws) ({ frames := 6, cells := 3, slots := 16, locals := 110 } : Room)) (fun aa U => aa = #[(.ref o), (.ref nm), (.double y1)] ∧ Z.Warmed39 U.vm ∧ U.heap = h0) (fun _ _ _ _ _ => True) (fun _ U ou U' => ∃ v L, ou = .returned v ∧ Q_rm_mean0 Z o nm y1 li mc aE kE h0 n0 v U'.heap L ∧ FrameEnd U ou U' L ({ frames := 6, cells := 3, slots := 16, locals := 110 } : Room).cells ({ frames := 6, cells := 3, slots := 16, locals := 110 } : Room).slots) := by
  refine MetFree.of_bodySF (plainFor_of_name own_pn5) hisR ?_
  intro p e s m args below meth c s₁ Bd hml0 hP hK
  obtain ⟨rfl, hZ, hh⟩ := hP
  have hx := Bd.exec
  have hby := Bd.bytes
  have hml : c.maxLocals = 4 := hml0
  have hown : s.vm.findClass "com/example/measured_reasoner/measuredreasoner/Summary" = some m.cls := findClass_of_methodNamed Bd.named
  have hnm := (name_of_methodNamed Bd.named Bd.method).1
  have X0 : Stand p l e ({ frames := 6, cells := 3, slots := 16, locals := 110 } : Room) s m #[(.ref o), (.ref nm), (.double y1)] below meth c s₁ [] 0 0 := Stand.of_body Bd
  have e0 : s₁.heap = h0 := by rw [← hh, Bd.state]; rfl
  have N0 := Fr.nil n0
  have K0 := Keep.refl h0 [li]
  show own_Go p e below (fun o u L => FrameEnd s o u L ({ frames := 6, cells := 3, slots := 16, locals := 110 } : Room).cells ({ frames := 6, cells := 3, slots := 16, locals := 110 } : Room).slots) (Q_rm_mean0 Z o nm y1 li mc aE kE h0 n0) (s₁.setTop (entryFrame m #[(.ref o), (.ref nm), (.double y1)] 4))
  rw [own_ef_rm_mean0 m o nm y1]
  show own_Go _ _ _ _ _ (State.setTop _ (mkF _ 0 #[.val (.ref o), .val (.ref nm), .val (.double y1), .second] []))
  refine own_aloadN X0 hx 1 rfl (hb hby own_d43_0) rfl rfl ?_
  refine own_getF X0 hx hZ (host := "") hown (Or.inl (own_hw hw 58 rfl)) Via.refl e0 F0 4 rfl (hb hby own_d43_1) fun T711 X711 e711 => ?_
  refine own_new X711 hx hZ hown (own_hw hw 65 rfl) (own_hw hw 66 rfl) (own_hw hw 67 rfl) e711 7 rfl (hb hby own_d43_4) (by decide) (by decide) fun T712 h712 b712 g712 X712 e712 E712 A712 D712 => ?_
  have ne713 : li ≠ b712 := Nat.ne_of_lt (Nat.lt_of_lt_of_le E1.lt (Nat.le_of_eq g712.symm))
  have ne714 : aE ≠ b712 := Nat.ne_of_lt (Nat.lt_of_lt_of_le A1.lt (Nat.le_of_eq g712.symm))
  have ge715 : n0 ≤ b712 := Nat.le_trans Z0 (Nat.le_of_eq g712.symm)
  have sz716 : h0.size ≤ b712 := Nat.le_trans K0.1 (Nat.le_of_eq g712.symm)
  have f717 := E1.ext E712
  have f718 := F1.ext E712
  have f719 := F2.ext E712
  have f720 := F3.ext E712
  have f721 := A1.ext E712
  have f722 := S1.ext E712
  have z723 := Nat.le_trans Z0 E712.1
  have K724 := K0.ext E712
  have f725 : Fld Z h712 b712 "com/example/measured_reasoner/measuredreasoner/Summary$Field" "name" "Ljava/lang/String;" .null := D712 (Or.inr (own_hw hw 86 rfl)) (ty := (.object "java/lang/String")) (by decide)
  have f726 : Fld Z h712 b712 "com/example/measured_reasoner/measuredreasoner/Summary$Field" "value" "Ljava/lang/Number;" .null := D712 (Or.inr (own_hw hw 88 rfl)) (ty := (.object "java/lang/Number")) (by decide)
  refine own_dup X712 hx 8 rfl (hb hby own_d43_7) rfl ?_
  refine own_aloadN X712 hx 9 rfl (hb hby own_d43_8) rfl rfl ?_
  refine own_dloadN X712 hx 10 rfl (hb hby own_d43_9) rfl ?_
  refine own_callS X712 hx hZ (y := (⟨"java/lang/Double", "valueOf", "(D)Ljava/lang/Double;"⟩ : MethodName)) hown (own_hw hw 280 rfl) (own_hw hw 281 rfl) (by decide) (rm_dblv l Z a0 hw [] y1 h712 n0 z723 ) (own_hw hw 283 rfl) (own_hw hw 282 rfl) (by decide) e712 (by rw [hml]; rfl) [(.double y1)] 4 (by decide) (Nat.le_of_eq rfl) (by decide) (by decide) (lenOf own_pd20 rfl) rfl rfl 13 rfl (hb hby own_d43_10) fun v727 T727 Lc727 X727 hQ727 => ?_
  obtain ⟨r_727, rfl, Nq727, Kq727, sd0_727, f728, f729⟩ := hQ727
  have N730 := Fr.app N0 Nq727
  have ne731 : li ≠ r_727 := own_on sd0_727 g_l f717.lt
  have ne732 : b712 ≠ r_727 := own_on sd0_727 ge715 A712.lt
  have on_r_727 : r_727 < n0 ∨ h0.size ≤ r_727 := sd0_727.imp id fun q => Nat.le_trans K724.1 q
  have f733 := f717.keep Kq727
  have f734 := f718.keep Kq727 nin0
  have f735 := f719.keep Kq727 nin0
  have f736 := f720.keep Kq727 nin0
  have f737 := f721.keep Kq727 nin0
  have f738 := own_staKeep f722 Kq727 ns0
  have f739 := A712.keep Kq727
  have f740 := f725.keep Kq727 nin0
  have f741 := f726.keep Kq727 nin0
  have z742 := Nat.le_trans z723 Kq727.1
  have K743 := K724.trans Kq727 all0
  show own_Go _ _ _ _ _ (State.setTop _ (mkF _ 13 _ [(.ref r_727), (.ref nm), (.ref b712), (.ref b712), (.ref li)]))
  refine own_special X727 hx hZ (y := (⟨"com/example/measured_reasoner/measuredreasoner/Summary$Field", "<init>", "(Ljava/lang/String;Ljava/lang/Number;)V"⟩ : MethodName)) hown rfl (own_hw hw 76 rfl) (own_hw hw 77 rfl) (a := b712) (by decide) rfl (rm_fdi l Z a0 hw [] b712 nm r_727 T727.heap n0 z742 f739 f740 f741 ge715) (own_hw hw 78 rfl) (own_hw hw 67 rfl) (by decide) rfl (by rw [hml]; rfl) [(.ref nm), (.ref r_727)] 2 (by decide) (Nat.le_of_eq rfl) (by decide) (by decide) (lenOf own_pd21 rfl) rfl rfl 16 rfl (hb hby own_d43_13) fun v744 T744 Lc744 X744 hQ744 => ?_
  obtain ⟨rfl, Nq744, Kq744, f745, f746, f747⟩ := hQ744
  have N748 := Fr.app N730 Nq744
  have f749 := f733.keep Kq744
  have f750 := f734.keep Kq744 (ninS ne713 nin0)
  have f751 := f735.keep Kq744 (ninS ne713 nin0)
  have f752 := f736.keep Kq744 (ninS ne713 nin0)
  have f753 := f737.keep Kq744 (ninS ne714 nin0)
  have f754 := own_staKeep f738 Kq744 (nsS f739.nostat ns0)
  have f755 := f739.keep Kq744
  have f758 := f728.keep Kq744
  have f759 := f729.keep Kq744 (ninS (Ne.symm ne732) nin0)
  have z760 := Nat.le_trans z742 Kq744.1
  have K761 := K743.trans Kq744 (allS (Or.inr sz716) all0)
  show own_Go _ _ _ _ _ (State.setTop _ (mkF _ 16 _ [(.ref b712), (.ref li)]))
  refine own_iface X744 hx hZ (C := "java/util/ArrayList") (xi := (⟨"java/util/List", "add", "(Ljava/lang/Object;)Z"⟩ : MethodName)) (y := (⟨"java/util/ArrayList", "add", "(Ljava/lang/Object;)Z"⟩ : MethodName)) hown (own_hw hw 89 rfl) (own_hw hw 90 rfl) (own_hw hw 91 rfl) rfl (own_hw hw 92 rfl) (own_hw hw 93 rfl) (own_hw hw 94 rfl) (own_hw hw 95 rfl) (own_hw hw 96 rfl) (a := li) f749 (by decide) (rm_add0 l Z a0 hw [] li aE kE mc b712 T744.heap n0 z760 f749 f750 f751 f752 f753 f754 g_l ne_lE f745) (own_hw hw 97 rfl) (own_hw hw 36 rfl) (by decide) rfl (by rw [hml]; rfl) [(.ref b712)] 0 (by decide) (Nat.le_of_eq rfl) (by decide) (by decide) (lenOf own_pd22 rfl) rfl rfl 21 rfl (hb hby own_d43_16) fun v762 T762 Lc762 X762 hQ762 => ?_
  obtain ⟨b_762, kb_762, rfl, Nq762, Kq762, sd0_762, f763, f764, f765, f766, f767, f768⟩ := hQ762
  have N769 := Fr.app N748 Nq762
  have ne770 : li ≠ b_762 := Nat.ne_of_lt (Nat.lt_of_lt_of_le f749.lt sd0_762)
  have ne771 : aE ≠ b_762 := Nat.ne_of_lt (Nat.lt_of_lt_of_le f753.lt sd0_762)
  have ne772 : b712 ≠ b_762 := Nat.ne_of_lt (Nat.lt_of_lt_of_le f745.lt sd0_762)
  have ne773 : r_727 ≠ b_762 := Nat.ne_of_lt (Nat.lt_of_lt_of_le f758.lt sd0_762)
  have ge774 : n0 ≤ b_762 := Nat.le_trans z760 sd0_762
  have sz775 : h0.size ≤ b_762 := Nat.le_trans K761.1 sd0_762
  have f776 := f749.keep Kq762
  have f780 := f753.keep Kq762 (ninS (Ne.symm ne_lE) nin0)
  have f781 := own_staKeep f754 Kq762 (nsS f749.nostat ns0)
  have f782 := f745.keep Kq762
  have f783 := f758.keep Kq762
  have f784 := f759.keep Kq762 (ninS (Ne.symm ne731) nin0)
  have f785 := f746.keep Kq762 (ninS (Ne.symm ne713) nin0)
  have f786 := f747.keep Kq762 (ninS (Ne.symm ne713) nin0)
  have z787 := Nat.le_trans z760 Kq762.1
  have K788 := K761.trans Kq762 (allS (Or.inl (List.mem_of_getElem? (i := 0) rfl)) all0)
  show own_Go _ _ _ _ _ (State.setTop _ (mkF _ 21 _ [(.int (1 : Int32))]))
  refine own_pop X762 hx 22 rfl (hb hby own_d43_21) rfl ?_
  refine own_aloadN X762 hx 23 rfl (hb hby own_d43_22) rfl rfl ?_
  refine own_ret X762 (some (.ref o)) (fun h => by rw [Bd.returns] at h; cases h) Bd.notSynchronized (by decide) (by decide) ?_ (fun fs hr => own_retR X762 hx Bd.returns rfl rfl (hb hby own_d43_23) hr)
  show Q_rm_mean0 Z o nm y1 li mc aE kE h0 n0 _ T762.heap _
  exact ⟨b712, r_727, b_762, kb_762, rfl, N769, K788, sz716, on_r_727, sz775, ne772, ne773, f782, f785, f786, f783, f784, f763, f764, f765, f766, f767, f768⟩
theorem own_ef_rm_count0 (m : MethodId) (o : Addr) (nm : Addr) (y1 : Int64) : entryFrame m #[(.ref o), (.ref nm), (.long y1)] 4 = mkF m 0 #[.val (.ref o), .val (.ref nm), .val (.long y1), .second] [] := by first | (simp [entryFrame, mkF, argsToLocals, Value.category]; done) | rfl
def Q_rm_count0 (Z : State) (o : Addr) (nm : Addr) (y1 : Int64) (li : Addr) (mc : Int32) (aE : Addr) (kE : ClassId) (h0 : Heap) (n0 : Nat) (v : Option Value) (h : Heap) (L : List Loc) : Prop := ∃ (f : Addr) (r : Addr) (b : Addr) (kb : ClassId), v = some (.ref o) ∧ Fr n0 L ∧ Keep h0 h [li] ∧ h0.size ≤ f ∧ (r < n0 ∨ h0.size ≤ r) ∧ h0.size ≤ b ∧ f ≠ b ∧ r ≠ b ∧ Exa Z h f "com/example/measured_reasoner/measuredreasoner/Summary$Field" ∧ Fld Z h f "com/example/measured_reasoner/measuredreasoner/Summary$Field" "name" "Ljava/lang/String;" (.ref nm) ∧ Fld Z h f "com/example/measured_reasoner/measuredreasoner/Summary$Field" "value" "Ljava/lang/Number;" (.ref r) ∧ Exa Z h r "java/lang/Long" ∧ Fld Z h r "java/lang/Long" "value" "J" (.long y1) ∧ Exa Z h li "java/util/ArrayList" ∧ Fld Z h li "java/util/AbstractList" "modCount" "I" (.int (mc + (1 : Int32))) ∧ Fld Z h li "java/util/ArrayList" "elementData" "[Ljava/lang/Object;" (.ref b) ∧ Fld Z h li "java/util/ArrayList" "size" "I" (.int (1 : Int32)) ∧ Arv Z h b kb (.object "java/lang/Object") (10 : Int32) [(.ref f), .null, .null, .null, .null, .null, .null, .null, .null, .null] .null ∧ Ovr Z kb "java/lang/Object"
theorem own_d10_0 : decode prog_19_method_2_code 0 = .ok (.aload_n 0, 1) := by decide +kernel
theorem own_d10_1 : decode prog_19_method_2_code 1 = .ok (.getfield 10, 3) := by decide +kernel
theorem own_d10_4 : decode prog_19_method_2_code 4 = .ok (.new 16, 3) := by decide +kernel
theorem own_d10_7 : decode prog_19_method_2_code 7 = .ok (.dup, 1) := by decide +kernel
theorem own_d10_8 : decode prog_19_method_2_code 8 = .ok (.aload_n 1, 1) := by decide +kernel
theorem own_d10_9 : decode prog_19_method_2_code 9 = .ok (.lload_n 2, 1) := by decide +kernel
theorem own_d10_10 : decode prog_19_method_2_code 10 = .ok (.invokestatic 18, 3) := by decide +kernel
theorem own_pd23 : parseMethodDescriptor "(J)Ljava/lang/Long;" = some ⟨[.long], some (.object "java/lang/Long")⟩ := by decide +kernel
theorem own_d10_13 : decode prog_19_method_2_code 13 = .ok (.invokespecial 24, 3) := by decide +kernel
theorem own_d10_16 : decode prog_19_method_2_code 16 = .ok (.invokeinterface 27 2, 5) := by decide +kernel
theorem own_d10_21 : decode prog_19_method_2_code 21 = .ok (.pop, 1) := by decide +kernel
theorem own_d10_22 : decode prog_19_method_2_code 22 = .ok (.aload_n 0, 1) := by decide +kernel
theorem own_d10_23 : decode prog_19_method_2_code 23 = .ok (.areturn, 1) := by decide +kernel
set_option maxRecDepth 65536 in
set_option maxHeartbeats 40000000 in
theorem rm_count0 (l : Launch) (Z : State) (a0 : Array Value) (hw : ∀ d ∈ tables_1, d.before a0 Z = true) (ws : List Jvm.Cond) (o : Addr) (nm : Addr) (y1 : Int64) (li : Addr) (mc : Int32) (aE : Addr) (kE : ClassId) (h0 : Heap) (n0 : Nat) (Z0 : n0 ≤ h0.size) (F0 : Fld Z h0 o "com/example/measured_reasoner/measuredreasoner/Summary" "fields" "Ljava/util/List;" (.ref li)) (E1 : Exa Z h0 li "java/util/ArrayList") (F1 : Fld Z h0 li "java/util/AbstractList" "modCount" "I" (.int mc)) (F2 : Fld Z h0 li "java/util/ArrayList" "elementData" "[Ljava/lang/Object;" (.ref aE)) (F3 : Fld Z h0 li "java/util/ArrayList" "size" "I" (.int (0 : Int32))) (A1 : Arv Z h0 aE kE (.object "java/lang/Object") (0 : Int32) [] .null) (S1 : Sta Z h0 "java/util/ArrayList" "DEFAULTCAPACITY_EMPTY_ELEMENTDATA" "[Ljava/lang/Object;" (.ref aE)) (ne_lE : li ≠ aE) (g_l : n0 ≤ li) (C1 : own_Ca Z h0 n0) :
    MetFree l (⟨"com/example/measured_reasoner/measuredreasoner/Summary", "count", "(Ljava/lang/String;J)Lcom/example/measured_reasoner/measuredreasoner/Summary;"⟩ : MethodName) (head1 (Jvm.Cond.code (⟨"com/example/measured_reasoner/measuredreasoner/Summary", "count", "(Ljava/lang/String;J)Lcom/example/measured_reasoner/measuredreasoner/Summary;"⟩ : MethodName) prog_19_method_2_code 4 (some (.object "com/example/measured_reasoner/measuredreasoner/Summary")) :: ws) ({ frames := 6, cells := 3, slots := 16, locals := 110 } : Room)) (fun aa U => aa = #[(.ref o), (.ref nm), (.long y1)] ∧ Z.Warmed39 U.vm ∧ U.heap = h0) (fun _ _ _ _ _ => True) (fun _ U ou U' => ∃ v L, ou = .returned v ∧ Q_rm_count0 Z o nm y1 li mc aE kE h0 n0 v U'.heap L ∧ FrameEnd U ou U' L ({ frames := 6, cells := 3, slots := 16, locals := 110 } : Room).cells ({ frames := 6, cells := 3, slots := 16, locals := 110 } : Room).slots) := by
  refine MetFree.of_bodySF (plainFor_of_name own_pn5) hisR ?_
  intro p e s m args below meth c s₁ Bd hml0 hP hK
  obtain ⟨rfl, hZ, hh⟩ := hP
  have hx := Bd.exec
  have hby := Bd.bytes
  have hml : c.maxLocals = 4 := hml0
  have hown : s.vm.findClass "com/example/measured_reasoner/measuredreasoner/Summary" = some m.cls := findClass_of_methodNamed Bd.named
  have hnm := (name_of_methodNamed Bd.named Bd.method).1
  have X0 : Stand p l e ({ frames := 6, cells := 3, slots := 16, locals := 110 } : Room) s m #[(.ref o), (.ref nm), (.long y1)] below meth c s₁ [] 0 0 := Stand.of_body Bd
  have e0 : s₁.heap = h0 := by rw [← hh, Bd.state]; rfl
  have N0 := Fr.nil n0
  have K0 := Keep.refl h0 [li]
  show own_Go p e below (fun o u L => FrameEnd s o u L ({ frames := 6, cells := 3, slots := 16, locals := 110 } : Room).cells ({ frames := 6, cells := 3, slots := 16, locals := 110 } : Room).slots) (Q_rm_count0 Z o nm y1 li mc aE kE h0 n0) (s₁.setTop (entryFrame m #[(.ref o), (.ref nm), (.long y1)] 4))
  rw [own_ef_rm_count0 m o nm y1]
  show own_Go _ _ _ _ _ (State.setTop _ (mkF _ 0 #[.val (.ref o), .val (.ref nm), .val (.long y1), .second] []))
  refine own_aloadN X0 hx 1 rfl (hb hby own_d10_0) rfl rfl ?_
  refine own_getF X0 hx hZ (host := "") hown (Or.inl (own_hw hw 58 rfl)) Via.refl e0 F0 4 rfl (hb hby own_d10_1) fun T789 X789 e789 => ?_
  refine own_new X789 hx hZ hown (own_hw hw 65 rfl) (own_hw hw 66 rfl) (own_hw hw 67 rfl) e789 7 rfl (hb hby own_d10_4) (by decide) (by decide) fun T790 h790 b790 g790 X790 e790 E790 A790 D790 => ?_
  have ne791 : li ≠ b790 := Nat.ne_of_lt (Nat.lt_of_lt_of_le E1.lt (Nat.le_of_eq g790.symm))
  have ne792 : aE ≠ b790 := Nat.ne_of_lt (Nat.lt_of_lt_of_le A1.lt (Nat.le_of_eq g790.symm))
  have ge793 : n0 ≤ b790 := Nat.le_trans Z0 (Nat.le_of_eq g790.symm)
  have sz794 : h0.size ≤ b790 := Nat.le_trans K0.1 (Nat.le_of_eq g790.symm)
  have f795 := E1.ext E790
  have f796 := F1.ext E790
  have f797 := F2.ext E790
  have f798 := F3.ext E790
  have f799 := A1.ext E790
  have f800 := S1.ext E790
  have f801 := C1.ext E790
  have z802 := Nat.le_trans Z0 E790.1
  have K803 := K0.ext E790
  have f804 : Fld Z h790 b790 "com/example/measured_reasoner/measuredreasoner/Summary$Field" "name" "Ljava/lang/String;" .null := D790 (Or.inr (own_hw hw 86 rfl)) (ty := (.object "java/lang/String")) (by decide)
  have f805 : Fld Z h790 b790 "com/example/measured_reasoner/measuredreasoner/Summary$Field" "value" "Ljava/lang/Number;" .null := D790 (Or.inr (own_hw hw 88 rfl)) (ty := (.object "java/lang/Number")) (by decide)
  refine own_dup X790 hx 8 rfl (hb hby own_d10_7) rfl ?_
  refine own_aloadN X790 hx 9 rfl (hb hby own_d10_8) rfl rfl ?_
  refine own_lloadN X790 hx 10 rfl (hb hby own_d10_9) rfl ?_
  refine own_callS X790 hx hZ (y := (⟨"java/lang/Long", "valueOf", "(J)Ljava/lang/Long;"⟩ : MethodName)) hown (own_hw hw 68 rfl) (own_hw hw 69 rfl) (by decide) (rm_longv l Z a0 hw [] y1 h790 n0 z802 f801) (own_hw hw 71 rfl) (own_hw hw 70 rfl) (by decide) e790 (by rw [hml]; rfl) [(.long y1)] 4 (by decide) (Nat.le_of_eq rfl) (by decide) (by decide) (lenOf own_pd23 rfl) rfl rfl 13 rfl (hb hby own_d10_10) fun v806 T806 Lc806 X806 hQ806 => ?_
  obtain ⟨r_806, rfl, Nq806, Kq806, sd0_806, f807, f808⟩ := hQ806
  have N809 := Fr.app N0 Nq806
  have ne810 : li ≠ r_806 := own_on sd0_806 g_l f795.lt
  have ne811 : b790 ≠ r_806 := own_on sd0_806 ge793 A790.lt
  have on_r_806 : r_806 < n0 ∨ h0.size ≤ r_806 := sd0_806.imp id fun q => Nat.le_trans K803.1 q
  have f812 := f795.keep Kq806
  have f813 := f796.keep Kq806 nin0
  have f814 := f797.keep Kq806 nin0
  have f815 := f798.keep Kq806 nin0
  have f816 := f799.keep Kq806 nin0
  have f817 := own_staKeep f800 Kq806 ns0
  have f818 := A790.keep Kq806
  have f819 := f804.keep Kq806 nin0
  have f820 := f805.keep Kq806 nin0
  have z821 := Nat.le_trans z802 Kq806.1
  have K822 := K803.trans Kq806 all0
  have f823 := f801.keep Kq806 all0 ns0
  show own_Go _ _ _ _ _ (State.setTop _ (mkF _ 13 _ [(.ref r_806), (.ref nm), (.ref b790), (.ref b790), (.ref li)]))
  refine own_special X806 hx hZ (y := (⟨"com/example/measured_reasoner/measuredreasoner/Summary$Field", "<init>", "(Ljava/lang/String;Ljava/lang/Number;)V"⟩ : MethodName)) hown rfl (own_hw hw 76 rfl) (own_hw hw 77 rfl) (a := b790) (by decide) rfl (rm_fdi l Z a0 hw [] b790 nm r_806 T806.heap n0 z821 f818 f819 f820 ge793) (own_hw hw 78 rfl) (own_hw hw 67 rfl) (by decide) rfl (by rw [hml]; rfl) [(.ref nm), (.ref r_806)] 2 (by decide) (Nat.le_of_eq rfl) (by decide) (by decide) (lenOf own_pd21 rfl) rfl rfl 16 rfl (hb hby own_d10_13) fun v824 T824 Lc824 X824 hQ824 => ?_
  obtain ⟨rfl, Nq824, Kq824, f825, f826, f827⟩ := hQ824
  have N828 := Fr.app N809 Nq824
  have f829 := f812.keep Kq824
  have f830 := f813.keep Kq824 (ninS ne791 nin0)
  have f831 := f814.keep Kq824 (ninS ne791 nin0)
  have f832 := f815.keep Kq824 (ninS ne791 nin0)
  have f833 := f816.keep Kq824 (ninS ne792 nin0)
  have f834 := own_staKeep f817 Kq824 (nsS f818.nostat ns0)
  have f835 := f818.keep Kq824
  have f838 := f807.keep Kq824
  have f839 := f808.keep Kq824 (ninS (Ne.symm ne811) nin0)
  have z840 := Nat.le_trans z821 Kq824.1
  have K841 := K822.trans Kq824 (allS (Or.inr sz794) all0)
  have f842 := f823.keep Kq824 (allS ge793 all0) (nsS f818.nostat ns0)
  show own_Go _ _ _ _ _ (State.setTop _ (mkF _ 16 _ [(.ref b790), (.ref li)]))
  refine own_iface X824 hx hZ (C := "java/util/ArrayList") (xi := (⟨"java/util/List", "add", "(Ljava/lang/Object;)Z"⟩ : MethodName)) (y := (⟨"java/util/ArrayList", "add", "(Ljava/lang/Object;)Z"⟩ : MethodName)) hown (own_hw hw 89 rfl) (own_hw hw 90 rfl) (own_hw hw 91 rfl) rfl (own_hw hw 92 rfl) (own_hw hw 93 rfl) (own_hw hw 94 rfl) (own_hw hw 95 rfl) (own_hw hw 96 rfl) (a := li) f829 (by decide) (rm_add0 l Z a0 hw [] li aE kE mc b790 T824.heap n0 z840 f829 f830 f831 f832 f833 f834 g_l ne_lE f825) (own_hw hw 97 rfl) (own_hw hw 36 rfl) (by decide) rfl (by rw [hml]; rfl) [(.ref b790)] 0 (by decide) (Nat.le_of_eq rfl) (by decide) (by decide) (lenOf own_pd22 rfl) rfl rfl 21 rfl (hb hby own_d10_16) fun v843 T843 Lc843 X843 hQ843 => ?_
  obtain ⟨b_843, kb_843, rfl, Nq843, Kq843, sd0_843, f844, f845, f846, f847, f848, f849⟩ := hQ843
  have N850 := Fr.app N828 Nq843
  have ne851 : li ≠ b_843 := Nat.ne_of_lt (Nat.lt_of_lt_of_le f829.lt sd0_843)
  have ne852 : aE ≠ b_843 := Nat.ne_of_lt (Nat.lt_of_lt_of_le f833.lt sd0_843)
  have ne853 : b790 ≠ b_843 := Nat.ne_of_lt (Nat.lt_of_lt_of_le f825.lt sd0_843)
  have ne854 : r_806 ≠ b_843 := Nat.ne_of_lt (Nat.lt_of_lt_of_le f838.lt sd0_843)
  have ge855 : n0 ≤ b_843 := Nat.le_trans z840 sd0_843
  have sz856 : h0.size ≤ b_843 := Nat.le_trans K841.1 sd0_843
  have f857 := f829.keep Kq843
  have f861 := f833.keep Kq843 (ninS (Ne.symm ne_lE) nin0)
  have f862 := own_staKeep f834 Kq843 (nsS f829.nostat ns0)
  have f863 := f825.keep Kq843
  have f864 := f838.keep Kq843
  have f865 := f839.keep Kq843 (ninS (Ne.symm ne810) nin0)
  have f866 := f826.keep Kq843 (ninS (Ne.symm ne791) nin0)
  have f867 := f827.keep Kq843 (ninS (Ne.symm ne791) nin0)
  have z868 := Nat.le_trans z840 Kq843.1
  have K869 := K841.trans Kq843 (allS (Or.inl (List.mem_of_getElem? (i := 0) rfl)) all0)
  have f870 := f842.keep Kq843 (allS g_l all0) (nsS f829.nostat ns0)
  show own_Go _ _ _ _ _ (State.setTop _ (mkF _ 21 _ [(.int (1 : Int32))]))
  refine own_pop X843 hx 22 rfl (hb hby own_d10_21) rfl ?_
  refine own_aloadN X843 hx 23 rfl (hb hby own_d10_22) rfl rfl ?_
  refine own_ret X843 (some (.ref o)) (fun h => by rw [Bd.returns] at h; cases h) Bd.notSynchronized (by decide) (by decide) ?_ (fun fs hr => own_retR X843 hx Bd.returns rfl rfl (hb hby own_d10_23) hr)
  show Q_rm_count0 Z o nm y1 li mc aE kE h0 n0 _ T843.heap _
  exact ⟨b790, r_806, b_843, kb_843, rfl, N850, K869, sz794, on_r_806, sz856, ne853, ne854, f863, f866, f867, f864, f865, f844, f845, f846, f847, f848, f849⟩
theorem own_ef_rm_count1 (m : MethodId) (o : Addr) (nm : Addr) (y1 : Int64) : entryFrame m #[(.ref o), (.ref nm), (.long y1)] 4 = mkF m 0 #[.val (.ref o), .val (.ref nm), .val (.long y1), .second] [] := by first | (simp [entryFrame, mkF, argsToLocals, Value.category]; done) | rfl
def Q_rm_count1 (Z : State) (o : Addr) (nm : Addr) (y1 : Int64) (li : Addr) (mc : Int32) (a : Addr) (ka : ClassId) (xe0 : Addr) (h0 : Heap) (n0 : Nat) (v : Option Value) (h : Heap) (L : List Loc) : Prop := ∃ (f : Addr) (r : Addr), v = some (.ref o) ∧ Fr n0 L ∧ Keep h0 h [li, a] ∧ h0.size ≤ f ∧ (r < n0 ∨ h0.size ≤ r) ∧ Exa Z h f "com/example/measured_reasoner/measuredreasoner/Summary$Field" ∧ Fld Z h f "com/example/measured_reasoner/measuredreasoner/Summary$Field" "name" "Ljava/lang/String;" (.ref nm) ∧ Fld Z h f "com/example/measured_reasoner/measuredreasoner/Summary$Field" "value" "Ljava/lang/Number;" (.ref r) ∧ Exa Z h r "java/lang/Long" ∧ Fld Z h r "java/lang/Long" "value" "J" (.long y1) ∧ Exa Z h li "java/util/ArrayList" ∧ Fld Z h li "java/util/AbstractList" "modCount" "I" (.int (mc + (1 : Int32))) ∧ Fld Z h li "java/util/ArrayList" "elementData" "[Ljava/lang/Object;" (.ref a) ∧ Fld Z h li "java/util/ArrayList" "size" "I" (.int (2 : Int32)) ∧ Arv Z h a ka (.object "java/lang/Object") (10 : Int32) [(.ref xe0), (.ref f), .null, .null, .null, .null, .null, .null, .null, .null] .null
set_option maxRecDepth 65536 in
set_option maxHeartbeats 40000000 in
theorem rm_count1 (l : Launch) (Z : State) (a0 : Array Value) (hw : ∀ d ∈ tables_1, d.before a0 Z = true) (ws : List Jvm.Cond) (o : Addr) (nm : Addr) (y1 : Int64) (li : Addr) (mc : Int32) (a : Addr) (ka : ClassId) (xe0 : Addr) (h0 : Heap) (n0 : Nat) (Z0 : n0 ≤ h0.size) (F0 : Fld Z h0 o "com/example/measured_reasoner/measuredreasoner/Summary" "fields" "Ljava/util/List;" (.ref li)) (E1 : Exa Z h0 li "java/util/ArrayList") (F1 : Fld Z h0 li "java/util/AbstractList" "modCount" "I" (.int mc)) (F2 : Fld Z h0 li "java/util/ArrayList" "elementData" "[Ljava/lang/Object;" (.ref a)) (F3 : Fld Z h0 li "java/util/ArrayList" "size" "I" (.int (1 : Int32))) (A1 : Arv Z h0 a ka (.object "java/lang/Object") (10 : Int32) [(.ref xe0), .null, .null, .null, .null, .null, .null, .null, .null, .null] .null) (O1 : Ovr Z ka "java/lang/Object") (g_a : n0 ≤ a) (ne_la : li ≠ a) (g_l : n0 ≤ li) (C1 : own_Ca Z h0 n0) :
    MetFree l (⟨"com/example/measured_reasoner/measuredreasoner/Summary", "count", "(Ljava/lang/String;J)Lcom/example/measured_reasoner/measuredreasoner/Summary;"⟩ : MethodName) (head1 (Jvm.Cond.code (⟨"com/example/measured_reasoner/measuredreasoner/Summary", "count", "(Ljava/lang/String;J)Lcom/example/measured_reasoner/measuredreasoner/Summary;"⟩ : MethodName) prog_19_method_2_code 4 (some (.object "com/example/measured_reasoner/measuredreasoner/Summary")) :: ws) ({ frames := 4, cells := 2, slots := 6, locals := 70 } : Room)) (fun aa U => aa = #[(.ref o), (.ref nm), (.long y1)] ∧ Z.Warmed39 U.vm ∧ U.heap = h0) (fun _ _ _ _ _ => True) (fun _ U ou U' => ∃ v L, ou = .returned v ∧ Q_rm_count1 Z o nm y1 li mc a ka xe0 h0 n0 v U'.heap L ∧ FrameEnd U ou U' L ({ frames := 4, cells := 2, slots := 6, locals := 70 } : Room).cells ({ frames := 4, cells := 2, slots := 6, locals := 70 } : Room).slots) := by
  refine MetFree.of_bodySF (plainFor_of_name own_pn5) hisR ?_
  intro p e s m args below meth c s₁ Bd hml0 hP hK
  obtain ⟨rfl, hZ, hh⟩ := hP
  have hx := Bd.exec
  have hby := Bd.bytes
  have hml : c.maxLocals = 4 := hml0
  have hown : s.vm.findClass "com/example/measured_reasoner/measuredreasoner/Summary" = some m.cls := findClass_of_methodNamed Bd.named
  have hnm := (name_of_methodNamed Bd.named Bd.method).1
  have X0 : Stand p l e ({ frames := 4, cells := 2, slots := 6, locals := 70 } : Room) s m #[(.ref o), (.ref nm), (.long y1)] below meth c s₁ [] 0 0 := Stand.of_body Bd
  have e0 : s₁.heap = h0 := by rw [← hh, Bd.state]; rfl
  have N0 := Fr.nil n0
  have K0 := Keep.refl h0 [li, a]
  show own_Go p e below (fun o u L => FrameEnd s o u L ({ frames := 4, cells := 2, slots := 6, locals := 70 } : Room).cells ({ frames := 4, cells := 2, slots := 6, locals := 70 } : Room).slots) (Q_rm_count1 Z o nm y1 li mc a ka xe0 h0 n0) (s₁.setTop (entryFrame m #[(.ref o), (.ref nm), (.long y1)] 4))
  rw [own_ef_rm_count1 m o nm y1]
  show own_Go _ _ _ _ _ (State.setTop _ (mkF _ 0 #[.val (.ref o), .val (.ref nm), .val (.long y1), .second] []))
  refine own_aloadN X0 hx 1 rfl (hb hby own_d10_0) rfl rfl ?_
  refine own_getF X0 hx hZ (host := "") hown (Or.inl (own_hw hw 58 rfl)) Via.refl e0 F0 4 rfl (hb hby own_d10_1) fun T871 X871 e871 => ?_
  refine own_new X871 hx hZ hown (own_hw hw 65 rfl) (own_hw hw 66 rfl) (own_hw hw 67 rfl) e871 7 rfl (hb hby own_d10_4) (by decide) (by decide) fun T872 h872 b872 g872 X872 e872 E872 A872 D872 => ?_
  have ne873 : li ≠ b872 := Nat.ne_of_lt (Nat.lt_of_lt_of_le E1.lt (Nat.le_of_eq g872.symm))
  have ne874 : a ≠ b872 := Nat.ne_of_lt (Nat.lt_of_lt_of_le A1.lt (Nat.le_of_eq g872.symm))
  have ge875 : n0 ≤ b872 := Nat.le_trans Z0 (Nat.le_of_eq g872.symm)
  have sz876 : h0.size ≤ b872 := Nat.le_trans K0.1 (Nat.le_of_eq g872.symm)
  have f877 := E1.ext E872
  have f878 := F1.ext E872
  have f879 := F2.ext E872
  have f880 := F3.ext E872
  have f881 := A1.ext E872
  have f882 := C1.ext E872
  have z883 := Nat.le_trans Z0 E872.1
  have K884 := K0.ext E872
  have f885 : Fld Z h872 b872 "com/example/measured_reasoner/measuredreasoner/Summary$Field" "name" "Ljava/lang/String;" .null := D872 (Or.inr (own_hw hw 86 rfl)) (ty := (.object "java/lang/String")) (by decide)
  have f886 : Fld Z h872 b872 "com/example/measured_reasoner/measuredreasoner/Summary$Field" "value" "Ljava/lang/Number;" .null := D872 (Or.inr (own_hw hw 88 rfl)) (ty := (.object "java/lang/Number")) (by decide)
  refine own_dup X872 hx 8 rfl (hb hby own_d10_7) rfl ?_
  refine own_aloadN X872 hx 9 rfl (hb hby own_d10_8) rfl rfl ?_
  refine own_lloadN X872 hx 10 rfl (hb hby own_d10_9) rfl ?_
  refine own_callS X872 hx hZ (y := (⟨"java/lang/Long", "valueOf", "(J)Ljava/lang/Long;"⟩ : MethodName)) hown (own_hw hw 68 rfl) (own_hw hw 69 rfl) (by decide) (rm_longv l Z a0 hw [] y1 h872 n0 z883 f882) (own_hw hw 71 rfl) (own_hw hw 70 rfl) (by decide) e872 (by rw [hml]; rfl) [(.long y1)] 4 (by decide) (Nat.le_of_eq rfl) (by decide) (by decide) (lenOf own_pd23 rfl) rfl rfl 13 rfl (hb hby own_d10_10) fun v887 T887 Lc887 X887 hQ887 => ?_
  obtain ⟨r_887, rfl, Nq887, Kq887, sd0_887, f888, f889⟩ := hQ887
  have N890 := Fr.app N0 Nq887
  have ne891 : li ≠ r_887 := own_on sd0_887 g_l f877.lt
  have ne892 : a ≠ r_887 := own_on sd0_887 g_a f881.lt
  have ne893 : b872 ≠ r_887 := own_on sd0_887 ge875 A872.lt
  have on_r_887 : r_887 < n0 ∨ h0.size ≤ r_887 := sd0_887.imp id fun q => Nat.le_trans K884.1 q
  have f894 := f877.keep Kq887
  have f895 := f878.keep Kq887 nin0
  have f896 := f879.keep Kq887 nin0
  have f897 := f880.keep Kq887 nin0
  have f898 := f881.keep Kq887 nin0
  have f899 := A872.keep Kq887
  have f900 := f885.keep Kq887 nin0
  have f901 := f886.keep Kq887 nin0
  have z902 := Nat.le_trans z883 Kq887.1
  have K903 := K884.trans Kq887 all0
  have f904 := f882.keep Kq887 all0 ns0
  show own_Go _ _ _ _ _ (State.setTop _ (mkF _ 13 _ [(.ref r_887), (.ref nm), (.ref b872), (.ref b872), (.ref li)]))
  refine own_special X887 hx hZ (y := (⟨"com/example/measured_reasoner/measuredreasoner/Summary$Field", "<init>", "(Ljava/lang/String;Ljava/lang/Number;)V"⟩ : MethodName)) hown rfl (own_hw hw 76 rfl) (own_hw hw 77 rfl) (a := b872) (by decide) rfl (rm_fdi l Z a0 hw [] b872 nm r_887 T887.heap n0 z902 f899 f900 f901 ge875) (own_hw hw 78 rfl) (own_hw hw 67 rfl) (by decide) rfl (by rw [hml]; rfl) [(.ref nm), (.ref r_887)] 2 (by decide) (Nat.le_of_eq rfl) (by decide) (by decide) (lenOf own_pd21 rfl) rfl rfl 16 rfl (hb hby own_d10_13) fun v905 T905 Lc905 X905 hQ905 => ?_
  obtain ⟨rfl, Nq905, Kq905, f906, f907, f908⟩ := hQ905
  have N909 := Fr.app N890 Nq905
  have f910 := f894.keep Kq905
  have f911 := f895.keep Kq905 (ninS ne873 nin0)
  have f912 := f896.keep Kq905 (ninS ne873 nin0)
  have f913 := f897.keep Kq905 (ninS ne873 nin0)
  have f914 := f898.keep Kq905 (ninS ne874 nin0)
  have f915 := f899.keep Kq905
  have f918 := f888.keep Kq905
  have f919 := f889.keep Kq905 (ninS (Ne.symm ne893) nin0)
  have z920 := Nat.le_trans z902 Kq905.1
  have K921 := K903.trans Kq905 (allS (Or.inr sz876) all0)
  have f922 := f904.keep Kq905 (allS ge875 all0) (nsS f899.nostat ns0)
  show own_Go _ _ _ _ _ (State.setTop _ (mkF _ 16 _ [(.ref b872), (.ref li)]))
  refine own_iface X905 hx hZ (C := "java/util/ArrayList") (xi := (⟨"java/util/List", "add", "(Ljava/lang/Object;)Z"⟩ : MethodName)) (y := (⟨"java/util/ArrayList", "add", "(Ljava/lang/Object;)Z"⟩ : MethodName)) hown (own_hw hw 89 rfl) (own_hw hw 90 rfl) (own_hw hw 91 rfl) rfl (own_hw hw 92 rfl) (own_hw hw 93 rfl) (own_hw hw 94 rfl) (own_hw hw 95 rfl) (own_hw hw 96 rfl) (a := li) f910 (by decide) (rm_add1 l Z a0 hw [] li a ka mc b872 xe0 T905.heap n0 z920 f910 f911 f912 f913 f914 O1 g_l g_a ne_la f906) (own_hw hw 97 rfl) (own_hw hw 36 rfl) (by decide) rfl (by rw [hml]; rfl) [(.ref b872)] 0 (by decide) (Nat.le_of_eq rfl) (by decide) (by decide) (lenOf own_pd22 rfl) rfl rfl 21 rfl (hb hby own_d10_16) fun v923 T923 Lc923 X923 hQ923 => ?_
  obtain ⟨rfl, Nq923, Kq923, f924, f925, f926, f927, f928⟩ := hQ923
  have N929 := Fr.app N909 Nq923
  have f930 := f910.keep Kq923
  have f935 := f906.keep Kq923
  have f936 := f918.keep Kq923
  have f937 := f919.keep Kq923 (ninS (Ne.symm ne891) (ninS (Ne.symm ne892) nin0))
  have f938 := f907.keep Kq923 (ninS (Ne.symm ne873) (ninS (Ne.symm ne874) nin0))
  have f939 := f908.keep Kq923 (ninS (Ne.symm ne873) (ninS (Ne.symm ne874) nin0))
  have z940 := Nat.le_trans z920 Kq923.1
  have K941 := K921.trans Kq923 (allS (Or.inl (List.mem_of_getElem? (i := 0) rfl)) (allS (Or.inl (List.mem_of_getElem? (i := 1) rfl)) all0))
  have f942 := f922.keep Kq923 (allS g_l (allS g_a all0)) (nsS f910.nostat (nsS f914.nostat ns0))
  show own_Go _ _ _ _ _ (State.setTop _ (mkF _ 21 _ [(.int (1 : Int32))]))
  refine own_pop X923 hx 22 rfl (hb hby own_d10_21) rfl ?_
  refine own_aloadN X923 hx 23 rfl (hb hby own_d10_22) rfl rfl ?_
  refine own_ret X923 (some (.ref o)) (fun h => by rw [Bd.returns] at h; cases h) Bd.notSynchronized (by decide) (by decide) ?_ (fun fs hr => own_retR X923 hx Bd.returns rfl rfl (hb hby own_d10_23) hr)
  show Q_rm_count1 Z o nm y1 li mc a ka xe0 h0 n0 _ T923.heap _
  exact ⟨b872, r_887, rfl, N929, K941, sz876, on_r_887, f935, f938, f939, f936, f937, f924, f925, f926, f927, f928⟩
theorem own_ef_rm_count2 (m : MethodId) (o : Addr) (nm : Addr) (y1 : Int64) : entryFrame m #[(.ref o), (.ref nm), (.long y1)] 4 = mkF m 0 #[.val (.ref o), .val (.ref nm), .val (.long y1), .second] [] := by first | (simp [entryFrame, mkF, argsToLocals, Value.category]; done) | rfl
def Q_rm_count2 (Z : State) (o : Addr) (nm : Addr) (y1 : Int64) (li : Addr) (mc : Int32) (a : Addr) (ka : ClassId) (xe0 : Addr) (xe1 : Addr) (h0 : Heap) (n0 : Nat) (v : Option Value) (h : Heap) (L : List Loc) : Prop := ∃ (f : Addr) (r : Addr), v = some (.ref o) ∧ Fr n0 L ∧ Keep h0 h [li, a] ∧ h0.size ≤ f ∧ (r < n0 ∨ h0.size ≤ r) ∧ Exa Z h f "com/example/measured_reasoner/measuredreasoner/Summary$Field" ∧ Fld Z h f "com/example/measured_reasoner/measuredreasoner/Summary$Field" "name" "Ljava/lang/String;" (.ref nm) ∧ Fld Z h f "com/example/measured_reasoner/measuredreasoner/Summary$Field" "value" "Ljava/lang/Number;" (.ref r) ∧ Exa Z h r "java/lang/Long" ∧ Fld Z h r "java/lang/Long" "value" "J" (.long y1) ∧ Exa Z h li "java/util/ArrayList" ∧ Fld Z h li "java/util/AbstractList" "modCount" "I" (.int (mc + (1 : Int32))) ∧ Fld Z h li "java/util/ArrayList" "elementData" "[Ljava/lang/Object;" (.ref a) ∧ Fld Z h li "java/util/ArrayList" "size" "I" (.int (3 : Int32)) ∧ Arv Z h a ka (.object "java/lang/Object") (10 : Int32) [(.ref xe0), (.ref xe1), (.ref f), .null, .null, .null, .null, .null, .null, .null] .null
set_option maxRecDepth 65536 in
set_option maxHeartbeats 40000000 in
theorem rm_count2 (l : Launch) (Z : State) (a0 : Array Value) (hw : ∀ d ∈ tables_1, d.before a0 Z = true) (ws : List Jvm.Cond) (o : Addr) (nm : Addr) (y1 : Int64) (li : Addr) (mc : Int32) (a : Addr) (ka : ClassId) (xe0 : Addr) (xe1 : Addr) (h0 : Heap) (n0 : Nat) (Z0 : n0 ≤ h0.size) (F0 : Fld Z h0 o "com/example/measured_reasoner/measuredreasoner/Summary" "fields" "Ljava/util/List;" (.ref li)) (E1 : Exa Z h0 li "java/util/ArrayList") (F1 : Fld Z h0 li "java/util/AbstractList" "modCount" "I" (.int mc)) (F2 : Fld Z h0 li "java/util/ArrayList" "elementData" "[Ljava/lang/Object;" (.ref a)) (F3 : Fld Z h0 li "java/util/ArrayList" "size" "I" (.int (2 : Int32))) (A1 : Arv Z h0 a ka (.object "java/lang/Object") (10 : Int32) [(.ref xe0), (.ref xe1), .null, .null, .null, .null, .null, .null, .null, .null] .null) (O1 : Ovr Z ka "java/lang/Object") (g_a : n0 ≤ a) (ne_la : li ≠ a) (g_l : n0 ≤ li) (C1 : own_Ca Z h0 n0) :
    MetFree l (⟨"com/example/measured_reasoner/measuredreasoner/Summary", "count", "(Ljava/lang/String;J)Lcom/example/measured_reasoner/measuredreasoner/Summary;"⟩ : MethodName) (head1 (Jvm.Cond.code (⟨"com/example/measured_reasoner/measuredreasoner/Summary", "count", "(Ljava/lang/String;J)Lcom/example/measured_reasoner/measuredreasoner/Summary;"⟩ : MethodName) prog_19_method_2_code 4 (some (.object "com/example/measured_reasoner/measuredreasoner/Summary")) :: ws) ({ frames := 4, cells := 2, slots := 6, locals := 70 } : Room)) (fun aa U => aa = #[(.ref o), (.ref nm), (.long y1)] ∧ Z.Warmed39 U.vm ∧ U.heap = h0) (fun _ _ _ _ _ => True) (fun _ U ou U' => ∃ v L, ou = .returned v ∧ Q_rm_count2 Z o nm y1 li mc a ka xe0 xe1 h0 n0 v U'.heap L ∧ FrameEnd U ou U' L ({ frames := 4, cells := 2, slots := 6, locals := 70 } : Room).cells ({ frames := 4, cells := 2, slots := 6, locals := 70 } : Room).slots) := by
  refine MetFree.of_bodySF (plainFor_of_name own_pn5) hisR ?_
  intro p e s m args below meth c s₁ Bd hml0 hP hK
  obtain ⟨rfl, hZ, hh⟩ := hP
  have hx := Bd.exec
  have hby := Bd.bytes
  have hml : c.maxLocals = 4 := hml0
  have hown : s.vm.findClass "com/example/measured_reasoner/measuredreasoner/Summary" = some m.cls := findClass_of_methodNamed Bd.named
  have hnm := (name_of_methodNamed Bd.named Bd.method).1
  have X0 : Stand p l e ({ frames := 4, cells := 2, slots := 6, locals := 70 } : Room) s m #[(.ref o), (.ref nm), (.long y1)] below meth c s₁ [] 0 0 := Stand.of_body Bd
  have e0 : s₁.heap = h0 := by rw [← hh, Bd.state]; rfl
  have N0 := Fr.nil n0
  have K0 := Keep.refl h0 [li, a]
  show own_Go p e below (fun o u L => FrameEnd s o u L ({ frames := 4, cells := 2, slots := 6, locals := 70 } : Room).cells ({ frames := 4, cells := 2, slots := 6, locals := 70 } : Room).slots) (Q_rm_count2 Z o nm y1 li mc a ka xe0 xe1 h0 n0) (s₁.setTop (entryFrame m #[(.ref o), (.ref nm), (.long y1)] 4))
  rw [own_ef_rm_count2 m o nm y1]
  show own_Go _ _ _ _ _ (State.setTop _ (mkF _ 0 #[.val (.ref o), .val (.ref nm), .val (.long y1), .second] []))
  refine own_aloadN X0 hx 1 rfl (hb hby own_d10_0) rfl rfl ?_
  refine own_getF X0 hx hZ (host := "") hown (Or.inl (own_hw hw 58 rfl)) Via.refl e0 F0 4 rfl (hb hby own_d10_1) fun T943 X943 e943 => ?_
  refine own_new X943 hx hZ hown (own_hw hw 65 rfl) (own_hw hw 66 rfl) (own_hw hw 67 rfl) e943 7 rfl (hb hby own_d10_4) (by decide) (by decide) fun T944 h944 b944 g944 X944 e944 E944 A944 D944 => ?_
  have ne945 : li ≠ b944 := Nat.ne_of_lt (Nat.lt_of_lt_of_le E1.lt (Nat.le_of_eq g944.symm))
  have ne946 : a ≠ b944 := Nat.ne_of_lt (Nat.lt_of_lt_of_le A1.lt (Nat.le_of_eq g944.symm))
  have ge947 : n0 ≤ b944 := Nat.le_trans Z0 (Nat.le_of_eq g944.symm)
  have sz948 : h0.size ≤ b944 := Nat.le_trans K0.1 (Nat.le_of_eq g944.symm)
  have f949 := E1.ext E944
  have f950 := F1.ext E944
  have f951 := F2.ext E944
  have f952 := F3.ext E944
  have f953 := A1.ext E944
  have f954 := C1.ext E944
  have z955 := Nat.le_trans Z0 E944.1
  have K956 := K0.ext E944
  have f957 : Fld Z h944 b944 "com/example/measured_reasoner/measuredreasoner/Summary$Field" "name" "Ljava/lang/String;" .null := D944 (Or.inr (own_hw hw 86 rfl)) (ty := (.object "java/lang/String")) (by decide)
  have f958 : Fld Z h944 b944 "com/example/measured_reasoner/measuredreasoner/Summary$Field" "value" "Ljava/lang/Number;" .null := D944 (Or.inr (own_hw hw 88 rfl)) (ty := (.object "java/lang/Number")) (by decide)
  refine own_dup X944 hx 8 rfl (hb hby own_d10_7) rfl ?_
  refine own_aloadN X944 hx 9 rfl (hb hby own_d10_8) rfl rfl ?_
  refine own_lloadN X944 hx 10 rfl (hb hby own_d10_9) rfl ?_
  refine own_callS X944 hx hZ (y := (⟨"java/lang/Long", "valueOf", "(J)Ljava/lang/Long;"⟩ : MethodName)) hown (own_hw hw 68 rfl) (own_hw hw 69 rfl) (by decide) (rm_longv l Z a0 hw [] y1 h944 n0 z955 f954) (own_hw hw 71 rfl) (own_hw hw 70 rfl) (by decide) e944 (by rw [hml]; rfl) [(.long y1)] 4 (by decide) (Nat.le_of_eq rfl) (by decide) (by decide) (lenOf own_pd23 rfl) rfl rfl 13 rfl (hb hby own_d10_10) fun v959 T959 Lc959 X959 hQ959 => ?_
  obtain ⟨r_959, rfl, Nq959, Kq959, sd0_959, f960, f961⟩ := hQ959
  have N962 := Fr.app N0 Nq959
  have ne963 : li ≠ r_959 := own_on sd0_959 g_l f949.lt
  have ne964 : a ≠ r_959 := own_on sd0_959 g_a f953.lt
  have ne965 : b944 ≠ r_959 := own_on sd0_959 ge947 A944.lt
  have on_r_959 : r_959 < n0 ∨ h0.size ≤ r_959 := sd0_959.imp id fun q => Nat.le_trans K956.1 q
  have f966 := f949.keep Kq959
  have f967 := f950.keep Kq959 nin0
  have f968 := f951.keep Kq959 nin0
  have f969 := f952.keep Kq959 nin0
  have f970 := f953.keep Kq959 nin0
  have f971 := A944.keep Kq959
  have f972 := f957.keep Kq959 nin0
  have f973 := f958.keep Kq959 nin0
  have z974 := Nat.le_trans z955 Kq959.1
  have K975 := K956.trans Kq959 all0
  have f976 := f954.keep Kq959 all0 ns0
  show own_Go _ _ _ _ _ (State.setTop _ (mkF _ 13 _ [(.ref r_959), (.ref nm), (.ref b944), (.ref b944), (.ref li)]))
  refine own_special X959 hx hZ (y := (⟨"com/example/measured_reasoner/measuredreasoner/Summary$Field", "<init>", "(Ljava/lang/String;Ljava/lang/Number;)V"⟩ : MethodName)) hown rfl (own_hw hw 76 rfl) (own_hw hw 77 rfl) (a := b944) (by decide) rfl (rm_fdi l Z a0 hw [] b944 nm r_959 T959.heap n0 z974 f971 f972 f973 ge947) (own_hw hw 78 rfl) (own_hw hw 67 rfl) (by decide) rfl (by rw [hml]; rfl) [(.ref nm), (.ref r_959)] 2 (by decide) (Nat.le_of_eq rfl) (by decide) (by decide) (lenOf own_pd21 rfl) rfl rfl 16 rfl (hb hby own_d10_13) fun v977 T977 Lc977 X977 hQ977 => ?_
  obtain ⟨rfl, Nq977, Kq977, f978, f979, f980⟩ := hQ977
  have N981 := Fr.app N962 Nq977
  have f982 := f966.keep Kq977
  have f983 := f967.keep Kq977 (ninS ne945 nin0)
  have f984 := f968.keep Kq977 (ninS ne945 nin0)
  have f985 := f969.keep Kq977 (ninS ne945 nin0)
  have f986 := f970.keep Kq977 (ninS ne946 nin0)
  have f987 := f971.keep Kq977
  have f990 := f960.keep Kq977
  have f991 := f961.keep Kq977 (ninS (Ne.symm ne965) nin0)
  have z992 := Nat.le_trans z974 Kq977.1
  have K993 := K975.trans Kq977 (allS (Or.inr sz948) all0)
  have f994 := f976.keep Kq977 (allS ge947 all0) (nsS f971.nostat ns0)
  show own_Go _ _ _ _ _ (State.setTop _ (mkF _ 16 _ [(.ref b944), (.ref li)]))
  refine own_iface X977 hx hZ (C := "java/util/ArrayList") (xi := (⟨"java/util/List", "add", "(Ljava/lang/Object;)Z"⟩ : MethodName)) (y := (⟨"java/util/ArrayList", "add", "(Ljava/lang/Object;)Z"⟩ : MethodName)) hown (own_hw hw 89 rfl) (own_hw hw 90 rfl) (own_hw hw 91 rfl) rfl (own_hw hw 92 rfl) (own_hw hw 93 rfl) (own_hw hw 94 rfl) (own_hw hw 95 rfl) (own_hw hw 96 rfl) (a := li) f982 (by decide) (rm_add2 l Z a0 hw [] li a ka mc b944 xe0 xe1 T977.heap n0 z992 f982 f983 f984 f985 f986 O1 g_l g_a ne_la f978) (own_hw hw 97 rfl) (own_hw hw 36 rfl) (by decide) rfl (by rw [hml]; rfl) [(.ref b944)] 0 (by decide) (Nat.le_of_eq rfl) (by decide) (by decide) (lenOf own_pd22 rfl) rfl rfl 21 rfl (hb hby own_d10_16) fun v995 T995 Lc995 X995 hQ995 => ?_
  obtain ⟨rfl, Nq995, Kq995, f996, f997, f998, f999, f1000⟩ := hQ995
  have N1001 := Fr.app N981 Nq995
  have f1002 := f982.keep Kq995
  have f1007 := f978.keep Kq995
  have f1008 := f990.keep Kq995
  have f1009 := f991.keep Kq995 (ninS (Ne.symm ne963) (ninS (Ne.symm ne964) nin0))
  have f1010 := f979.keep Kq995 (ninS (Ne.symm ne945) (ninS (Ne.symm ne946) nin0))
  have f1011 := f980.keep Kq995 (ninS (Ne.symm ne945) (ninS (Ne.symm ne946) nin0))
  have z1012 := Nat.le_trans z992 Kq995.1
  have K1013 := K993.trans Kq995 (allS (Or.inl (List.mem_of_getElem? (i := 0) rfl)) (allS (Or.inl (List.mem_of_getElem? (i := 1) rfl)) all0))
  have f1014 := f994.keep Kq995 (allS g_l (allS g_a all0)) (nsS f982.nostat (nsS f986.nostat ns0))
  show own_Go _ _ _ _ _ (State.setTop _ (mkF _ 21 _ [(.int (1 : Int32))]))
  refine own_pop X995 hx 22 rfl (hb hby own_d10_21) rfl ?_
  refine own_aloadN X995 hx 23 rfl (hb hby own_d10_22) rfl rfl ?_
  refine own_ret X995 (some (.ref o)) (fun h => by rw [Bd.returns] at h; cases h) Bd.notSynchronized (by decide) (by decide) ?_ (fun fs hr => own_retR X995 hx Bd.returns rfl rfl (hb hby own_d10_23) hr)
  show Q_rm_count2 Z o nm y1 li mc a ka xe0 xe1 h0 n0 _ T995.heap _
  exact ⟨b944, r_959, rfl, N1001, K1013, sz948, on_r_959, f1007, f1010, f1011, f1008, f1009, f996, f997, f998, f999, f1000⟩
theorem own_lc (y : Int64) : lcmpW y y = 0 := Int32.toInt_inj.mp ((c_lcmp y y).2.1 rfl)
theorem own_ef_rm_lval (m : MethodId) (o : Addr) : entryFrame m #[(.ref o)] 1 = mkF m 0 #[.val (.ref o)] [] := by first | (simp [entryFrame, mkF, argsToLocals, Value.category]; done) | rfl
def Q_rm_lval (Z : State) (o : Addr) (u : Int64) (h0 : Heap) (n0 : Nat) (v : Option Value) (h : Heap) (L : List Loc) : Prop := v = some (.long u) ∧ Fr n0 L ∧ h = h0
theorem own_d37_0 : decode jdk_35_method_31_code 0 = .ok (.aload_n 0, 1) := by decide +kernel
theorem own_d37_1 : decode jdk_35_method_31_code 1 = .ok (.getfield 273, 3) := by decide +kernel
theorem own_d37_4 : decode jdk_35_method_31_code 4 = .ok (.lreturn, 1) := by decide +kernel
set_option maxRecDepth 65536 in
set_option maxHeartbeats 40000000 in
theorem rm_lval (l : Launch) (Z : State) (a0 : Array Value) (hw : ∀ d ∈ tables_1, d.before a0 Z = true) (ws : List Jvm.Cond) (o : Addr) (u : Int64) (h0 : Heap) (n0 : Nat) (Z0 : n0 ≤ h0.size) (F1 : Fld Z h0 o "java/lang/Long" "value" "J" (.long u)) :
    MetFree l (⟨"java/lang/Long", "longValue", "()J"⟩ : MethodName) (head1 (Jvm.Cond.code (⟨"java/lang/Long", "longValue", "()J"⟩ : MethodName) jdk_35_method_31_code 1 (some .long) :: ws) ({ frames := 0, cells := 0, slots := 0, locals := 0 } : Room)) (fun aa U => aa = #[(.ref o)] ∧ Z.Warmed39 U.vm ∧ U.heap = h0) (fun _ _ _ _ _ => True) (fun _ U ou U' => ∃ v L, ou = .returned v ∧ Q_rm_lval Z o u h0 n0 v U'.heap L ∧ FrameEnd U ou U' L ({ frames := 0, cells := 0, slots := 0, locals := 0 } : Room).cells ({ frames := 0, cells := 0, slots := 0, locals := 0 } : Room).slots) := by
  refine MetFree.of_bodySF (plainFor_of_name own_pn6) hisR ?_
  intro p e s m args below meth c s₁ Bd hml0 hP hK
  obtain ⟨rfl, hZ, hh⟩ := hP
  have hx := Bd.exec
  have hby := Bd.bytes
  have hml : c.maxLocals = 1 := hml0
  have hown : s.vm.findClass "java/lang/Long" = some m.cls := findClass_of_methodNamed Bd.named
  have hnm := (name_of_methodNamed Bd.named Bd.method).1
  have X0 : Stand p l e ({ frames := 0, cells := 0, slots := 0, locals := 0 } : Room) s m #[(.ref o)] below meth c s₁ [] 0 0 := Stand.of_body Bd
  have e0 : s₁.heap = h0 := by rw [← hh, Bd.state]; rfl
  have N0 := Fr.nil n0
  show own_Go p e below (fun o u L => FrameEnd s o u L ({ frames := 0, cells := 0, slots := 0, locals := 0 } : Room).cells ({ frames := 0, cells := 0, slots := 0, locals := 0 } : Room).slots) (Q_rm_lval Z o u h0 n0) (s₁.setTop (entryFrame m #[(.ref o)] 1))
  rw [own_ef_rm_lval m o]
  show own_Go _ _ _ _ _ (State.setTop _ (mkF _ 0 #[.val (.ref o)] []))
  refine own_aloadN X0 hx 1 rfl (hb hby own_d37_0) rfl rfl ?_
  refine own_getF X0 hx hZ (host := "") hown (Or.inl (own_hw hw 137 rfl)) Via.refl e0 F1 4 rfl (hb hby own_d37_1) fun T1015 X1015 e1015 => ?_
  refine own_ret X1015 (some (.long u)) (fun h => by rw [Bd.returns] at h; cases h) Bd.notSynchronized (by decide) (by decide) ?_ (fun fs hr => own_retJ X1015 hx Bd.returns (hb hby own_d37_4) hr)
  show Q_rm_lval Z o u h0 n0 _ T1015.heap _
  rw [e1015]
  exact ⟨rfl, N0, rfl⟩
theorem own_pn18 : plainName "com/example/measured_reasoner/measuredreasoner/SummaryCountPinLaw" = true := by first | (simp [plainName, overriddenIn]; done) | decide +kernel
theorem own_ef_rm_is (m : MethodId) (f : Addr) (nm : Addr) (y1 : Int64) : entryFrame m #[(.ref f), (.ref nm), (.long y1)] 5 = mkF m 0 #[.val (.ref f), .val (.ref nm), .val (.long y1), .second, .unset] [] := by first | (simp [entryFrame, mkF, argsToLocals, Value.category]; done) | rfl
def Q_rm_is (Z : State) (f : Addr) (nm : Addr) (y1 : Int64) (r : Addr) (h0 : Heap) (n0 : Nat) (v : Option Value) (h : Heap) (L : List Loc) : Prop := v = some (.int (1 : Int32)) ∧ Fr n0 L ∧ h = h0
theorem own_d33_0 : decode method_2_code 0 = .ok (.aload_n 0, 1) := by decide +kernel
theorem own_d33_1 : decode method_2_code 1 = .ok (.invokevirtual 7, 3) := by decide +kernel
theorem own_pd24 : parseMethodDescriptor "()Ljava/lang/Number;" = some ⟨[], some (.object "java/lang/Number")⟩ := by decide +kernel
theorem own_d33_4 : decode method_2_code 4 = .ok (.astore 4, 2) := by decide +kernel
theorem own_d33_6 : decode method_2_code 6 = .ok (.aload 4, 2) := by decide +kernel
theorem own_d33_8 : decode method_2_code 8 = .ok (.instanceof 13, 3) := by decide +kernel
theorem own_d33_11 : decode method_2_code 11 = .ok (.ifCond .ne 5, 3) := by decide +kernel
theorem own_d33_16 : decode method_2_code 16 = .ok (.aload_n 0, 1) := by decide +kernel
theorem own_d33_17 : decode method_2_code 17 = .ok (.invokevirtual 15, 3) := by decide +kernel
theorem own_pd25 : parseMethodDescriptor "()Ljava/lang/String;" = some ⟨[], some (.object "java/lang/String")⟩ := by decide +kernel
theorem own_d33_20 : decode method_2_code 20 = .ok (.aload_n 1, 1) := by decide +kernel
theorem own_d33_21 : decode method_2_code 21 = .ok (.invokevirtual 19, 3) := by decide +kernel
theorem own_d33_24 : decode method_2_code 24 = .ok (.ifCond .eq 20, 3) := by decide +kernel
theorem own_d33_27 : decode method_2_code 27 = .ok (.aload 4, 2) := by decide +kernel
theorem own_d33_29 : decode method_2_code 29 = .ok (.checkcast 13, 3) := by decide +kernel
theorem own_d33_32 : decode method_2_code 32 = .ok (.invokevirtual 25, 3) := by decide +kernel
theorem own_pd26 : parseMethodDescriptor "()J" = some ⟨[], some .long⟩ := by decide +kernel
theorem own_d33_35 : decode method_2_code 35 = .ok (.lload_n 2, 1) := by decide +kernel
theorem own_d33_36 : decode method_2_code 36 = .ok (.lcmp, 1) := by decide +kernel
theorem own_d33_37 : decode method_2_code 37 = .ok (.ifCond .ne 7, 3) := by decide +kernel
theorem own_d33_40 : decode method_2_code 40 = .ok (.iconst 1, 1) := by decide +kernel
theorem own_d33_41 : decode method_2_code 41 = .ok (.goto 4, 3) := by decide +kernel
theorem own_d33_45 : decode method_2_code 45 = .ok (.ireturn, 1) := by decide +kernel
set_option maxRecDepth 65536 in
set_option maxHeartbeats 40000000 in
theorem rm_is (l : Launch) (Z : State) (a0 : Array Value) (hw : ∀ d ∈ tables_1, d.before a0 Z = true) (ws : List Jvm.Cond) (f : Addr) (nm : Addr) (y1 : Int64) (r : Addr) (h0 : Heap) (n0 : Nat) (Z0 : n0 ≤ h0.size) (E1 : Exa Z h0 f "com/example/measured_reasoner/measuredreasoner/Summary$Field") (F1 : Fld Z h0 f "com/example/measured_reasoner/measuredreasoner/Summary$Field" "name" "Ljava/lang/String;" (.ref nm)) (F2 : Fld Z h0 f "com/example/measured_reasoner/measuredreasoner/Summary$Field" "value" "Ljava/lang/Number;" (.ref r)) (E2 : Exa Z h0 r "java/lang/Long") (F3 : Fld Z h0 r "java/lang/Long" "value" "J" (.long y1)) (E3 : Exa Z h0 nm "java/lang/String") :
    MetFree l (⟨"com/example/measured_reasoner/measuredreasoner/SummaryCountPinLaw", "isCount", "(Lcom/example/measured_reasoner/measuredreasoner/Summary$Field;Ljava/lang/String;J)Z"⟩ : MethodName) (head1 (Jvm.Cond.code (⟨"com/example/measured_reasoner/measuredreasoner/SummaryCountPinLaw", "isCount", "(Lcom/example/measured_reasoner/measuredreasoner/Summary$Field;Ljava/lang/String;J)Z"⟩ : MethodName) method_2_code 5 (some .boolean) :: ws) ({ frames := 1, cells := 0, slots := 0, locals := 20 } : Room)) (fun aa U => aa = #[(.ref f), (.ref nm), (.long y1)] ∧ Z.Warmed39 U.vm ∧ U.heap = h0) (fun _ _ _ _ _ => True) (fun _ U ou U' => ∃ v L, ou = .returned v ∧ Q_rm_is Z f nm y1 r h0 n0 v U'.heap L ∧ FrameEnd U ou U' L ({ frames := 1, cells := 0, slots := 0, locals := 20 } : Room).cells ({ frames := 1, cells := 0, slots := 0, locals := 20 } : Room).slots) := by
  refine MetFree.of_bodySF (plainFor_of_name own_pn18) hisR ?_
  intro p e s m args below meth c s₁ Bd hml0 hP hK
  obtain ⟨rfl, hZ, hh⟩ := hP
  have hx := Bd.exec
  have hby := Bd.bytes
  have hml : c.maxLocals = 5 := hml0
  have hown : s.vm.findClass "com/example/measured_reasoner/measuredreasoner/SummaryCountPinLaw" = some m.cls := findClass_of_methodNamed Bd.named
  have hnm := (name_of_methodNamed Bd.named Bd.method).1
  have X0 : Stand p l e ({ frames := 1, cells := 0, slots := 0, locals := 20 } : Room) s m #[(.ref f), (.ref nm), (.long y1)] below meth c s₁ [] 0 0 := Stand.of_body Bd
  have e0 : s₁.heap = h0 := by rw [← hh, Bd.state]; rfl
  have N0 := Fr.nil n0
  show own_Go p e below (fun o u L => FrameEnd s o u L ({ frames := 1, cells := 0, slots := 0, locals := 20 } : Room).cells ({ frames := 1, cells := 0, slots := 0, locals := 20 } : Room).slots) (Q_rm_is Z f nm y1 r h0 n0) (s₁.setTop (entryFrame m #[(.ref f), (.ref nm), (.long y1)] 5))
  rw [own_ef_rm_is m f nm y1]
  show own_Go _ _ _ _ _ (State.setTop _ (mkF _ 0 #[.val (.ref f), .val (.ref nm), .val (.long y1), .second, .unset] []))
  refine own_aloadN X0 hx 1 rfl (hb hby own_d33_0) rfl rfl ?_
  refine own_virtual X0 hx hZ (y := (⟨"com/example/measured_reasoner/measuredreasoner/Summary$Field", "value", "()Ljava/lang/Number;"⟩ : MethodName)) (z := (⟨"com/example/measured_reasoner/measuredreasoner/Summary$Field", "value", "()Ljava/lang/Number;"⟩ : MethodName)) hown (own_hw hw 237 rfl) (own_hw hw 238 rfl) (own_hw hw 240 rfl) (own_hw hw 239 rfl) rfl (a := f) E1 (by decide) (rm_fval l Z a0 hw [] f r h0 n0 Z0 F2) (own_hw hw 241 rfl) (own_hw hw 67 rfl) (by decide) e0 (by rw [hml]; rfl) [] 0 (by decide) (Nat.le_of_eq rfl) (by decide) (by decide) (lenOf own_pd24 rfl) rfl rfl 4 rfl (hb hby own_d33_1) fun v1016 T1016 Lc1016 X1016 hQ1016 => ?_
  obtain ⟨rfl, Nq1016, e1016⟩ := hQ1016
  have N1017 := Fr.app N0 Nq1016
  show own_Go _ _ _ _ _ (State.setTop _ (mkF _ 4 _ [(.ref r)]))
  refine own_astore X1016 hx 6 rfl (hb hby own_d33_4) rfl #[.val (.ref f), .val (.ref nm), .val (.long y1), .second, .val (.ref r)] rfl ?_
  refine own_aload X1016 hx 8 rfl (hb hby own_d33_6) rfl rfl ?_
  obtain ⟨T1018, X1018, e1018, st1018⟩ := instY X1016 hx hZ hown (own_hw hw 242 rfl) e1016 (Ins.self E2) (g := (mkF m 8 #[.val (.ref f), .val (.ref nm), .val (.long y1), .second, .val (.ref r)] [(.ref r)])) rfl rfl (hb hby own_d33_8)
  refine own_st st1018 ?_
  show own_Go _ _ _ _ _ (State.setTop _ (mkF _ 11 #[.val (.ref f), .val (.ref nm), .val (.long y1), .second, .val (.ref r)] [(.int (1 : Int32))]))
  refine own_ifYes X1018 hx 16 (hb hby own_d33_11) (by decide) (by decide) rfl ?_
  refine own_aloadN X1018 hx 17 rfl (hb hby own_d33_16) rfl rfl ?_
  refine own_virtual X1018 hx hZ (y := (⟨"com/example/measured_reasoner/measuredreasoner/Summary$Field", "name", "()Ljava/lang/String;"⟩ : MethodName)) (z := (⟨"com/example/measured_reasoner/measuredreasoner/Summary$Field", "name", "()Ljava/lang/String;"⟩ : MethodName)) hown (own_hw hw 243 rfl) (own_hw hw 244 rfl) (own_hw hw 246 rfl) (own_hw hw 245 rfl) rfl (a := f) E1 (by decide) (rm_fname l Z a0 hw [] f nm h0 n0 Z0 F1) (own_hw hw 247 rfl) (own_hw hw 67 rfl) (by decide) e1018 (by rw [hml]; rfl) [] 0 (by decide) (Nat.le_of_eq rfl) (by decide) (by decide) (lenOf own_pd25 rfl) rfl rfl 20 rfl (hb hby own_d33_17) fun v1019 T1019 Lc1019 X1019 hQ1019 => ?_
  obtain ⟨rfl, Nq1019, e1019⟩ := hQ1019
  have N1020 := Fr.app N1017 Nq1019
  show own_Go _ _ _ _ _ (State.setTop _ (mkF _ 20 _ [(.ref nm)]))
  refine own_aloadN X1019 hx 21 rfl (hb hby own_d33_20) rfl rfl ?_
  refine own_virtual X1019 hx hZ (y := (⟨"java/lang/String", "equals", "(Ljava/lang/Object;)Z"⟩ : MethodName)) (z := (⟨"java/lang/String", "equals", "(Ljava/lang/Object;)Z"⟩ : MethodName)) hown (own_hw hw 248 rfl) (own_hw hw 249 rfl) (own_hw hw 251 rfl) (own_hw hw 250 rfl) rfl (a := nm) E3 (by decide) (rm_eq l Z a0 hw [] nm h0 n0 Z0 ) (own_hw hw 252 rfl) (own_hw hw 3 rfl) (by decide) e1019 (by rw [hml]; rfl) [(.ref nm)] 0 (by decide) (Nat.le_of_eq rfl) (by decide) (by decide) (lenOf own_pd22 rfl) rfl rfl 24 rfl (hb hby own_d33_21) fun v1021 T1021 Lc1021 X1021 hQ1021 => ?_
  obtain ⟨rfl, Nq1021, e1021⟩ := hQ1021
  have N1022 := Fr.app N1020 Nq1021
  show own_Go _ _ _ _ _ (State.setTop _ (mkF _ 24 _ [(.int (1 : Int32))]))
  refine own_ifNo X1021 hx 27 rfl (hb hby own_d33_24) (by decide) ?_
  refine own_aload X1021 hx 29 rfl (hb hby own_d33_27) rfl rfl ?_
  obtain ⟨T1023, X1023, e1023, st1023⟩ := castY X1021 hx hZ hown (own_hw hw 242 rfl) e1021 (Ins.self E2) (g := (mkF m 29 #[.val (.ref f), .val (.ref nm), .val (.long y1), .second, .val (.ref r)] [(.ref r)])) rfl rfl (hb hby own_d33_29)
  refine own_st st1023 ?_
  show own_Go _ _ _ _ _ (State.setTop _ (mkF _ 32 #[.val (.ref f), .val (.ref nm), .val (.long y1), .second, .val (.ref r)] [(.ref r)]))
  refine own_virtual X1023 hx hZ (y := (⟨"java/lang/Long", "longValue", "()J"⟩ : MethodName)) (z := (⟨"java/lang/Long", "longValue", "()J"⟩ : MethodName)) hown (own_hw hw 253 rfl) (own_hw hw 254 rfl) (own_hw hw 256 rfl) (own_hw hw 255 rfl) rfl (a := r) E2 (by decide) (rm_lval l Z a0 hw [] r y1 h0 n0 Z0 F3) (own_hw hw 257 rfl) (own_hw hw 70 rfl) (by decide) e1023 (by rw [hml]; rfl) [] 0 (by decide) (Nat.le_of_eq rfl) (by decide) (by decide) (lenOf own_pd26 rfl) rfl rfl 35 rfl (hb hby own_d33_32) fun v1024 T1024 Lc1024 X1024 hQ1024 => ?_
  obtain ⟨rfl, Nq1024, e1024⟩ := hQ1024
  have N1025 := Fr.app N1022 Nq1024
  show own_Go _ _ _ _ _ (State.setTop _ (mkF _ 35 _ [(.long y1)]))
  refine own_lloadN X1024 hx 36 rfl (hb hby own_d33_35) rfl ?_
  refine own_lcmp X1024 hx 37 rfl (hb hby own_d33_36) (0 : Int32) (own_lc y1) ?_
  refine own_ifNo X1024 hx 40 rfl (hb hby own_d33_37) (by decide) ?_
  refine own_iconst X1024 hx 41 rfl (hb hby own_d33_40) (1 : Int32) rfl ?_
  refine own_goto X1024 hx 45 (hb hby own_d33_41) (by decide) rfl ?_
  refine own_ret X1024 (some (.int (1 : Int32))) (fun h => by rw [Bd.returns] at h; cases h) Bd.notSynchronized (by decide) (by decide) ?_ (fun fs hr => retN X1024 hx (t := .boolean) Bd.returns (by simp) (hb hby own_d33_45) hr)
  show Q_rm_is Z f nm y1 r h0 n0 _ T1024.heap _
  rw [e1024]
  exact ⟨rfl, N1025, rfl⟩
theorem own_ef_rm0 (m : MethodId) (i0 : Int32) (i1 : Int64) (i2 : Int64) (i3 : Int32) : entryFrame m #[(.int i0), (.long i1), (.long i2), (.int i3)] maxLocals = mkF m 0 #[.val (.int i0), .val (.long i1), .second, .val (.long i2), .second, .val (.int i3), .unset, .unset, .unset, .unset, .unset, .unset, .unset, .unset, .unset, .unset] [] := by first | (simp [entryFrame, mkF, argsToLocals, Value.category, maxLocals]; done) | rfl
def Q_rm0 (Z : State) (i0 : Int32) (i1 : Int64) (i2 : Int64) (i3 : Int32) (cs : Int32) (aE : Addr) (kE : ClassId) (mA : Addr) (mL : Addr) (mR : Addr) (h0 : Heap) (n0 : Nat) (v : Option Value) (h : Heap) (L : List Loc) : Prop := v = some (.int 1) ∧ Fr n0 L
theorem own_pd27 : parseMethodDescriptor "(C)Ljava/lang/String;" = some ⟨[.char], some (.object "java/lang/String")⟩ := by decide +kernel
theorem own_pd28 : parseMethodDescriptor "(Ljava/lang/String;J)Lcom/example/measured_reasoner/measuredreasoner/Summary;" = some ⟨[(.object "java/lang/String"), .long], some (.object "com/example/measured_reasoner/measuredreasoner/Summary")⟩ := by decide +kernel
theorem own_pd29 : parseMethodDescriptor "()Ljava/util/List;" = some ⟨[], some (.object "java/util/List")⟩ := by decide +kernel
theorem own_pd30 : parseMethodDescriptor "(Lcom/example/measured_reasoner/measuredreasoner/Summary$Field;Ljava/lang/String;J)Z" = some ⟨[(.object "com/example/measured_reasoner/measuredreasoner/Summary$Field"), (.object "java/lang/String"), .long], some .boolean⟩ := by decide +kernel
theorem own_pd31 : parseMethodDescriptor "(Ljava/lang/String;D)Lcom/example/measured_reasoner/measuredreasoner/Summary;" = some ⟨[(.object "java/lang/String"), .double], some (.object "com/example/measured_reasoner/measuredreasoner/Summary")⟩ := by decide +kernel
theorem own_pd32 : parseMethodDescriptor "([C)V" = some ⟨[(.array .char)], none⟩ := by decide +kernel
set_option maxRecDepth 65536 in
set_option maxHeartbeats 40000000 in
theorem rm0 (l : Launch) (Z : State) (a0 : Array Value) (hw : ∀ d ∈ tables_1, d.before a0 Z = true) (ws : List Jvm.Cond) (i0 : Int32) (i1 : Int64) (i2 : Int64) (i3 : Int32) (cs : Int32) (aE : Addr) (kE : ClassId) (mA : Addr) (mL : Addr) (mR : Addr) (h0 : Heap) (n0 : Nat) (Z0 : n0 ≤ h0.size) (S1 : Sta Z h0 "java/lang/String" "COMPACT_STRINGS" "Z" (.int cs)) (S2 : Sta Z h0 "java/util/ArrayList" "DEFAULTCAPACITY_EMPTY_ELEMENTDATA" "[Ljava/lang/Object;" (.ref aE)) (A1 : Arv Z h0 aE kE (.object "java/lang/Object") (0 : Int32) [] .null) (C1 : own_Ca Z h0 n0) (hcs : ¬ cs = 0) (M1 : own_Mi Z "java/util/ArrayList" mA) (M2 : own_Mi Z "java/util/Collections$UnmodifiableList" mL) (M3 : own_Mi Z "java/util/Collections$UnmodifiableRandomAccessList" mR) (nAL : mA ≠ mL) (nAR : mA ≠ mR) :
    MetFree l x (head1 (Jvm.Cond.code x code maxLocals ret :: ws) room_1) (fun aa U => aa = #[(.int i0), (.long i1), (.long i2), (.int i3)] ∧ Z.Warmed39 U.vm ∧ U.heap = h0) (fun _ _ _ _ _ => True) (fun _ U ou U' => ∃ v L, ou = .returned v ∧ Q_rm0 Z i0 i1 i2 i3 cs aE kE mA mL mR h0 n0 v U'.heap L ∧ FrameEnd U ou U' L room_1.cells room_1.slots) := by
  refine MetFree.of_bodySF (plainFor_of_name own_pn18) hisR ?_
  intro p e s m args below meth c s₁ Bd hml0 hP hK
  obtain ⟨rfl, hZ, hh⟩ := hP
  have hx := Bd.exec
  have hby := Bd.bytes
  have hml : c.maxLocals = 16 := hml0
  have hown : s.vm.findClass "com/example/measured_reasoner/measuredreasoner/SummaryCountPinLaw" = some m.cls := findClass_of_methodNamed Bd.named
  have hnm := (name_of_methodNamed Bd.named Bd.method).1
  have X0 : Stand p l e room_1 s m #[(.int i0), (.long i1), (.long i2), (.int i3)] below meth c s₁ [] 0 0 := Stand.of_body Bd
  have e0 : s₁.heap = h0 := by rw [← hh, Bd.state]; rfl
  have N0 := Fr.nil n0
  show own_Go p e below (fun o u L => FrameEnd s o u L room_1.cells room_1.slots) (Q_rm0 Z i0 i1 i2 i3 cs aE kE mA mL mR h0 n0) (s₁.setTop (entryFrame m #[(.int i0), (.long i1), (.long i2), (.int i3)] maxLocals))
  rw [own_ef_rm0 m i0 i1 i2 i3]
  show own_Go _ _ _ _ _ (State.setTop _ (mkF _ 0 #[.val (.int i0), .val (.long i1), .second, .val (.long i2), .second, .val (.int i3), .unset, .unset, .unset, .unset, .unset, .unset, .unset, .unset, .unset, .unset] []))
  refine own_iconst X0 hx 1 rfl (hb hby at_0) (2 : Int32) rfl ?_
  refine own_newA X0 hx hZ (own_hw hw 0 rfl) e0 3 rfl (hb hby at_1) (by decide) 2 (by decide) (by decide) (by decide) (by decide) "[C" (by decide) fun T1026 h1026 k1026 b1026 g1026 X1026 e1026 E1026 A1026 C1026 => ?_
  have ne1027 : aE ≠ b1026 := Nat.ne_of_lt (Nat.lt_of_lt_of_le A1.lt (Nat.le_of_eq g1026.symm))
  have ge1028 : n0 ≤ b1026 := Nat.le_trans Z0 (Nat.le_of_eq g1026.symm)
  have f1029 := S1.ext E1026
  have f1030 := S2.ext E1026
  have f1031 := A1.ext E1026
  have f1032 := C1.ext E1026
  have z1033 := Nat.le_trans Z0 E1026.1
  have f1034 : Arv Z h1026 b1026 k1026 .char (2 : Int32) [(.int (0 : Int32)), (.int (0 : Int32))] (.int (0 : Int32)) := (Arv.new A1026 (by decide)).pad (pad_rep [] (.int (0 : Int32)) 2)
  refine own_astore X1026 hx 5 rfl (hb hby at_3) rfl #[.val (.int i0), .val (.long i1), .second, .val (.long i2), .second, .val (.int i3), .val (.ref b1026), .unset, .unset, .unset, .unset, .unset, .unset, .unset, .unset, .unset] rfl ?_
  refine own_aload X1026 hx 7 rfl (hb hby at_5) rfl rfl ?_
  refine own_iconst X1026 hx 8 rfl (hb hby at_7) (0 : Int32) rfl ?_
  refine own_iloadN X1026 hx 9 rfl (hb hby at_8) rfl ?_
  refine own_sipush X1026 hx 12 rfl (hb hby at_9) (255 : Int32) rfl ?_
  refine own_iand X1026 hx 13 rfl (hb hby at_12) _ rfl ?_
  refine own_i2c X1026 hx 14 rfl (hb hby at_13) _ rfl ?_
  refine own_stC X1026 hx hZ e1026 f1034 ⟨by decide, by decide⟩ 0 rfl (Nat.le_of_ble_eq_true rfl) [(.int (nar .char ((i0 &&& (255 : Int32)).toUInt32.toUInt16.toUInt32.toInt32))), (.int (0 : Int32))] rfl 15 rfl (hb hby at_14) fun T1035 h1035 X1035 e1035 W1035 f1036 => ?_
  have f1037 := f1029.wr W1035
  have f1038 := f1030.wr W1035
  have f1039 := f1031.other W1035 ne1027
  have f1040 := C1026.wr W1035
  have z1041 := Nat.le_trans z1033 (Keep.of_wr W1035).1
  have f1042 := f1032.wr W1035 ge1028
  have N1043 := Fr.snoc X1035 N0 ge1028
  refine own_aload X1035 hx 17 rfl (hb hby at_15) rfl rfl ?_
  refine own_iconst X1035 hx 18 rfl (hb hby at_17) (1 : Int32) rfl ?_
  refine own_iloadN X1035 hx 19 rfl (hb hby at_18) rfl ?_
  refine own_bipush X1035 hx 21 rfl (hb hby at_19) (8 : Int32) rfl ?_
  refine own_iushr X1035 hx 22 rfl (hb hby at_21) _ rfl ?_
  refine own_sipush X1035 hx 25 rfl (hb hby at_22) (255 : Int32) rfl ?_
  refine own_iand X1035 hx 26 rfl (hb hby at_25) _ rfl ?_
  refine own_i2c X1035 hx 27 rfl (hb hby at_26) _ rfl ?_
  refine own_stC X1035 hx hZ e1035 f1036 ⟨by decide, by decide⟩ 1 rfl (Nat.le_of_ble_eq_true rfl) [(.int (nar .char ((i0 &&& (255 : Int32)).toUInt32.toUInt16.toUInt32.toInt32))), (.int (nar .char ((((i0.toUInt32 >>> ((8 : Int32) &&& 31).toUInt32).toInt32) &&& (255 : Int32)).toUInt32.toUInt16.toUInt32.toInt32)))] rfl 28 rfl (hb hby at_27) fun T1044 h1044 X1044 e1044 W1044 f1045 => ?_
  have f1046 := f1037.wr W1044
  have f1047 := f1038.wr W1044
  have f1048 := f1039.other W1044 ne1027
  have f1049 := f1040.wr W1044
  have z1050 := Nat.le_trans z1041 (Keep.of_wr W1044).1
  have f1051 := f1042.wr W1044 ge1028
  have N1052 := Fr.snoc X1044 N1043 ge1028
  have J54 : ∀ (TJ : State) (LJ : List Loc) (hJ : Heap) (XJ : Stand p l e room_1 s m #[(.int i0), (.long i1), (.long i2), (.int i3)] below meth c TJ LJ 4 16) (eJ : TJ.heap = hJ) (NJ : Fr n0 LJ) (zJ : n0 ≤ hJ.size) (nm1 : Addr) (a6 : Addr), (Sta Z hJ "java/lang/String" "COMPACT_STRINGS" "Z" (.int cs)) → (Sta Z hJ "java/util/ArrayList" "DEFAULTCAPACITY_EMPTY_ELEMENTDATA" "[Ljava/lang/Object;" (.ref aE)) → (Arv Z hJ aE kE (.object "java/lang/Object") (0 : Int32) [] .null) → (own_Ca Z hJ n0) → (Exa Z hJ nm1 "java/lang/String") → own_Go p e below (fun o u L => FrameEnd s o u L room_1.cells room_1.slots) (Q_rm0 Z i0 i1 i2 i3 cs aE kE mA mL mR h0 n0) (TJ.setTop (mkF m 54 #[.val (.int i0), .val (.long i1), .second, .val (.long i2), .second, .val (.int i3), .val (.ref a6), .unset, .unset, .unset, .unset, .unset, .unset, .unset, .unset, .unset] [(.ref nm1)])) := by
    intro TJ LJ hJ XJ eJ NJ zJ nm1 a6 j0_J54 j1_J54 j2_J54 j3_J54 j4_J54
    show own_Go _ _ _ _ _ (State.setTop _ (mkF _ 54 #[.val (.int i0), .val (.long i1), .second, .val (.long i2), .second, .val (.int i3), .val (.ref a6), .unset, .unset, .unset, .unset, .unset, .unset, .unset, .unset, .unset] [(.ref nm1)]))
    refine own_astore XJ hx 56 rfl (hb hby at_54) rfl #[.val (.int i0), .val (.long i1), .second, .val (.long i2), .second, .val (.int i3), .val (.ref a6), .val (.ref nm1), .unset, .unset, .unset, .unset, .unset, .unset, .unset, .unset] rfl ?_
    refine own_iloadN XJ hx 57 rfl (hb hby at_56) rfl ?_
    refine own_bipush XJ hx 59 rfl (hb hby at_57) (16 : Int32) rfl ?_
    refine own_iushr XJ hx 60 rfl (hb hby at_59) _ rfl ?_
    refine own_sipush XJ hx 63 rfl (hb hby at_60) (255 : Int32) rfl ?_
    refine own_iand XJ hx 64 rfl (hb hby at_63) _ rfl ?_
    refine own_i2c XJ hx 65 rfl (hb hby at_64) _ rfl ?_
    refine own_callS XJ hx hZ (y := (⟨"java/lang/String", "valueOf", "(C)Ljava/lang/String;"⟩ : MethodName)) hown (own_hw hw 1 rfl) (own_hw hw 2 rfl) (by decide) (rm_valueof l Z a0 hw [] ((((i0.toUInt32 >>> ((16 : Int32) &&& 31).toUInt32).toInt32) &&& (255 : Int32)).toUInt32.toUInt16.toUInt32.toInt32) cs hJ n0 zJ j0_J54 hcs (own_ch1 (own_m255 _).1 (own_m255 _).2)) (own_hw hw 4 rfl) (own_hw hw 3 rfl) (by decide) eJ (by rw [hml]; rfl) [(.int ((((i0.toUInt32 >>> ((16 : Int32) &&& 31).toUInt32).toInt32) &&& (255 : Int32)).toUInt32.toUInt16.toUInt32.toInt32))] 0 (by decide) (Nat.le_of_eq rfl) (by decide) (by decide) (lenOf own_pd27 rfl) rfl rfl 68 rfl (hb hby at_65) fun v1053 T1053 Lc1053 X1053 hQ1053 => ?_
    obtain ⟨r_1053, rfl, Nq1053, Kq1053, sd0_1053, f1054⟩ := hQ1053
    have N1055 := Fr.app NJ Nq1053
    have ne1056 : aE ≠ r_1053 := Nat.ne_of_lt (Nat.lt_of_lt_of_le j2_J54.lt sd0_1053)
    have ne1057 : nm1 ≠ r_1053 := Nat.ne_of_lt (Nat.lt_of_lt_of_le j4_J54.lt sd0_1053)
    have ge1058 : n0 ≤ r_1053 := Nat.le_trans zJ sd0_1053
    have f1059 := own_staKeep j0_J54 Kq1053 ns0
    have f1060 := own_staKeep j1_J54 Kq1053 ns0
    have f1061 := j2_J54.keep Kq1053 nin0
    have f1062 := j4_J54.keep Kq1053
    have z1063 := Nat.le_trans zJ Kq1053.1
    have f1064 := j3_J54.keep Kq1053 all0 ns0
    show own_Go _ _ _ _ _ (State.setTop _ (mkF _ 68 _ [(.ref r_1053)]))
    refine own_astore X1053 hx 70 rfl (hb hby at_68) rfl #[.val (.int i0), .val (.long i1), .second, .val (.long i2), .second, .val (.int i3), .val (.ref a6), .val (.ref nm1), .val (.ref r_1053), .unset, .unset, .unset, .unset, .unset, .unset, .unset] rfl ?_
    refine own_iload X1053 hx 72 rfl (hb hby at_70) rfl ?_
    refine own_iconst X1053 hx 73 rfl (hb hby at_72) (1 : Int32) rfl ?_
    refine own_iand X1053 hx 74 rfl (hb hby at_73) _ rfl ?_
    by_cases hc1065 : (i3 &&& (1 : Int32)) = (0 : Int32)
    ·
      refine own_ifYes X1053 hx 81 (hb hby at_74) ((if0 _ _).trans (teq hc1065).1) (by decide) rfl ?_
      refine own_iconst X1053 hx 82 rfl (hb hby at_81) (0 : Int32) rfl ?_
      refine own_istore X1053 hx 84 rfl (hb hby at_82) #[.val (.int i0), .val (.long i1), .second, .val (.long i2), .second, .val (.int i3), .val (.ref a6), .val (.ref nm1), .val (.ref r_1053), .val (.int (0 : Int32)), .unset, .unset, .unset, .unset, .unset, .unset] rfl ?_
      refine own_new X1053 hx hZ hown (own_hw hw 27 rfl) (own_hw hw 28 rfl) (own_hw hw 29 rfl) rfl 87 rfl (hb hby at_84) (by decide) (by decide) fun T1066 h1066 b1066 g1066 X1066 e1066 E1066 A1066 D1066 => ?_
      have ne1067 : aE ≠ b1066 := Nat.ne_of_lt (Nat.lt_of_lt_of_le f1061.lt (Nat.le_of_eq g1066.symm))
      have ne1068 : nm1 ≠ b1066 := Nat.ne_of_lt (Nat.lt_of_lt_of_le f1062.lt (Nat.le_of_eq g1066.symm))
      have ne1069 : r_1053 ≠ b1066 := Nat.ne_of_lt (Nat.lt_of_lt_of_le f1054.lt (Nat.le_of_eq g1066.symm))
      have ge1070 : n0 ≤ b1066 := Nat.le_trans z1063 (Nat.le_of_eq g1066.symm)
      have f1071 := f1059.ext E1066
      have f1072 := f1060.ext E1066
      have f1073 := f1061.ext E1066
      have f1074 := f1062.ext E1066
      have f1075 := f1064.ext E1066
      have f1076 := f1054.ext E1066
      have z1077 := Nat.le_trans z1063 E1066.1
      have f1078 : Fld Z h1066 b1066 "com/example/measured_reasoner/measuredreasoner/Summary" "fields" "Ljava/util/List;" .null := D1066 (Or.inr (own_hw hw 59 rfl)) (ty := (.object "java/util/List")) (by decide)
      refine own_dup X1066 hx 88 rfl (hb hby at_87) rfl ?_
      refine own_special X1066 hx hZ (y := (⟨"com/example/measured_reasoner/measuredreasoner/Summary", "<init>", "()V"⟩ : MethodName)) hown rfl (own_hw hw 30 rfl) (own_hw hw 31 rfl) (a := b1066) (by decide) rfl (rm_su l Z a0 hw [] b1066 aE h1066 n0 z1077 A1066 f1078 ge1070 f1072) (own_hw hw 32 rfl) (own_hw hw 29 rfl) (by decide) e1066 (by rw [hml]; rfl) [] 1 (by decide) (Nat.le_of_eq rfl) (by decide) (by decide) (lenOf own_pd0 rfl) rfl rfl 91 rfl (hb hby at_88) fun v1079 T1079 Lc1079 X1079 hQ1079 => ?_
      obtain ⟨li_1079, rfl, Nq1079, Kq1079, sd0_1079, f1080, f1081, f1082, f1083, f1084, f1085⟩ := hQ1079
      have N1086 := Fr.app N1055 Nq1079
      have ne1087 : aE ≠ li_1079 := Nat.ne_of_lt (Nat.lt_of_lt_of_le f1073.lt sd0_1079)
      have ne1088 : nm1 ≠ li_1079 := Nat.ne_of_lt (Nat.lt_of_lt_of_le f1074.lt sd0_1079)
      have ne1089 : r_1053 ≠ li_1079 := Nat.ne_of_lt (Nat.lt_of_lt_of_le f1076.lt sd0_1079)
      have ne1090 : b1066 ≠ li_1079 := Nat.ne_of_lt (Nat.lt_of_lt_of_le A1066.lt sd0_1079)
      have ge1091 : n0 ≤ li_1079 := Nat.le_trans z1077 sd0_1079
      have f1092 := own_staKeep f1071 Kq1079 (nsS A1066.nostat ns0)
      have f1093 := own_staKeep f1072 Kq1079 (nsS A1066.nostat ns0)
      have f1094 := f1073.keep Kq1079 (ninS ne1067 nin0)
      have f1095 := f1074.keep Kq1079
      have f1096 := f1076.keep Kq1079
      have f1097 := A1066.keep Kq1079
      have z1099 := Nat.le_trans z1077 Kq1079.1
      have f1100 := f1075.keep Kq1079 (allS ge1070 all0) (nsS A1066.nostat ns0)
      show own_Go _ _ _ _ _ (State.setTop _ (mkF _ 91 _ [(.ref b1066)]))
      refine own_astore X1079 hx 93 rfl (hb hby at_91) rfl #[.val (.int i0), .val (.long i1), .second, .val (.long i2), .second, .val (.int i3), .val (.ref a6), .val (.ref nm1), .val (.ref r_1053), .val (.int (0 : Int32)), .val (.ref b1066), .unset, .unset, .unset, .unset, .unset] rfl ?_
      refine own_iload X1079 hx 95 rfl (hb hby at_93) rfl ?_
      refine own_ifYes X1079 hx 115 (hb hby at_95) (by decide) (by decide) rfl ?_
      refine own_aload X1079 hx 117 rfl (hb hby at_115) rfl rfl ?_
      refine own_aload X1079 hx 119 rfl (hb hby at_117) rfl rfl ?_
      refine own_lloadN X1079 hx 120 rfl (hb hby at_119) rfl ?_
      refine own_virtual X1079 hx hZ (y := (⟨"com/example/measured_reasoner/measuredreasoner/Summary", "count", "(Ljava/lang/String;J)Lcom/example/measured_reasoner/measuredreasoner/Summary;"⟩ : MethodName)) (z := (⟨"com/example/measured_reasoner/measuredreasoner/Summary", "count", "(Ljava/lang/String;J)Lcom/example/measured_reasoner/measuredreasoner/Summary;"⟩ : MethodName)) hown (own_hw hw 60 rfl) (own_hw hw 61 rfl) (own_hw hw 63 rfl) (own_hw hw 62 rfl) rfl (a := b1066) f1080 (by decide) (rm_count0 l Z a0 hw [] b1066 nm1 i1 li_1079 (0 : Int32) aE kE T1079.heap n0 z1099 f1081 f1082 f1083 f1084 f1085 f1094 f1093 (Ne.symm ne1087) ge1091 f1100) (own_hw hw 64 rfl) (own_hw hw 29 rfl) (by decide) rfl (by rw [hml]; rfl) [(.ref nm1), (.long i1)] 0 (by decide) (Nat.le_of_eq rfl) (by decide) (by decide) (lenOf own_pd28 rfl) rfl rfl 123 rfl (hb hby at_120) fun v1101 T1101 Lc1101 X1101 hQ1101 => ?_
      obtain ⟨f_1101, r_1101, b_1101, kb_1101, rfl, Nq1101, Kq1101, sd0_1101, sd1_1101, sd2_1101, sd3_1101, sd4_1101, f1102, f1103, f1104, f1105, f1106, f1107, f1108, f1109, f1110, f1111, f1112⟩ := hQ1101
      have N1113 := Fr.app N1086 Nq1101
      have ne1114 : aE ≠ f_1101 := Nat.ne_of_lt (Nat.lt_of_lt_of_le f1094.lt sd0_1101)
      have ne1115 : nm1 ≠ f_1101 := Nat.ne_of_lt (Nat.lt_of_lt_of_le f1095.lt sd0_1101)
      have ne1116 : r_1053 ≠ f_1101 := Nat.ne_of_lt (Nat.lt_of_lt_of_le f1096.lt sd0_1101)
      have ne1117 : b1066 ≠ f_1101 := Nat.ne_of_lt (Nat.lt_of_lt_of_le f1080.lt sd0_1101)
      have ne1118 : li_1079 ≠ f_1101 := Nat.ne_of_lt (Nat.lt_of_lt_of_le f1082.lt sd0_1101)
      have ge1119 : n0 ≤ f_1101 := Nat.le_trans z1099 sd0_1101
      have ne1120 : r_1053 ≠ r_1101 := own_on sd1_1101 ge1058 f1096.lt
      have ne1121 : b1066 ≠ r_1101 := own_on sd1_1101 ge1070 f1080.lt
      have ne1122 : li_1079 ≠ r_1101 := own_on sd1_1101 ge1091 f1082.lt
      have ne1123 : aE ≠ b_1101 := Nat.ne_of_lt (Nat.lt_of_lt_of_le f1094.lt sd2_1101)
      have ne1124 : nm1 ≠ b_1101 := Nat.ne_of_lt (Nat.lt_of_lt_of_le f1095.lt sd2_1101)
      have ne1125 : r_1053 ≠ b_1101 := Nat.ne_of_lt (Nat.lt_of_lt_of_le f1096.lt sd2_1101)
      have ne1126 : b1066 ≠ b_1101 := Nat.ne_of_lt (Nat.lt_of_lt_of_le f1080.lt sd2_1101)
      have ne1127 : li_1079 ≠ b_1101 := Nat.ne_of_lt (Nat.lt_of_lt_of_le f1082.lt sd2_1101)
      have ge1128 : n0 ≤ b_1101 := Nat.le_trans z1099 sd2_1101
      have f1129 := own_staKeep f1092 Kq1101 (nsS f1082.nostat ns0)
      have f1130 := own_staKeep f1093 Kq1101 (nsS f1082.nostat ns0)
      have f1131 := f1094.keep Kq1101 (ninS ne1087 nin0)
      have f1132 := f1095.keep Kq1101
      have f1133 := f1096.keep Kq1101
      have f1134 := f1080.keep Kq1101
      have f1135 := f1081.keep Kq1101 (ninS ne1090 nin0)
      have f1136 := f1082.keep Kq1101
      have z1140 := Nat.le_trans z1099 Kq1101.1
      have f1141 := f1100.keep Kq1101 (allS ge1091 all0) (nsS f1082.nostat ns0)
      show own_Go _ _ _ _ _ (State.setTop _ (mkF _ 123 _ [(.ref b1066)]))
      refine own_astore X1101 hx 125 rfl (hb hby at_123) rfl #[.val (.int i0), .val (.long i1), .second, .val (.long i2), .second, .val (.int i3), .val (.ref a6), .val (.ref nm1), .val (.ref r_1053), .val (.int (0 : Int32)), .val (.ref b1066), .val (.ref b1066), .unset, .unset, .unset, .unset] rfl ?_
      refine own_aload X1101 hx 127 rfl (hb hby at_125) rfl rfl ?_
      refine own_aload X1101 hx 129 rfl (hb hby at_127) rfl rfl ?_
      refine own_lloadN X1101 hx 130 rfl (hb hby at_129) rfl ?_
      refine own_virtual X1101 hx hZ (y := (⟨"com/example/measured_reasoner/measuredreasoner/Summary", "count", "(Ljava/lang/String;J)Lcom/example/measured_reasoner/measuredreasoner/Summary;"⟩ : MethodName)) (z := (⟨"com/example/measured_reasoner/measuredreasoner/Summary", "count", "(Ljava/lang/String;J)Lcom/example/measured_reasoner/measuredreasoner/Summary;"⟩ : MethodName)) hown (own_hw hw 60 rfl) (own_hw hw 61 rfl) (own_hw hw 63 rfl) (own_hw hw 62 rfl) rfl (a := b1066) f1134 (by decide) (rm_count1 l Z a0 hw [] b1066 r_1053 i2 li_1079 ((0 : Int32) + (1 : Int32)) b_1101 kb_1101 f_1101 T1101.heap n0 z1140 f1135 f1107 f1108 f1109 f1110 f1111 f1112 ge1128 ne1127 ge1091 f1141) (own_hw hw 64 rfl) (own_hw hw 29 rfl) (by decide) rfl (by rw [hml]; rfl) [(.ref r_1053), (.long i2)] 0 (by decide) (Nat.le_of_eq rfl) (by decide) (by decide) (lenOf own_pd28 rfl) rfl rfl 133 rfl (hb hby at_130) fun v1142 T1142 Lc1142 X1142 hQ1142 => ?_
      obtain ⟨f_1142, r_1142, rfl, Nq1142, Kq1142, sd0_1142, sd1_1142, f1143, f1144, f1145, f1146, f1147, f1148, f1149, f1150, f1151, f1152⟩ := hQ1142
      have N1153 := Fr.app N1113 Nq1142
      have ne1154 : aE ≠ f_1142 := Nat.ne_of_lt (Nat.lt_of_lt_of_le f1131.lt sd0_1142)
      have ne1155 : nm1 ≠ f_1142 := Nat.ne_of_lt (Nat.lt_of_lt_of_le f1132.lt sd0_1142)
      have ne1156 : r_1053 ≠ f_1142 := Nat.ne_of_lt (Nat.lt_of_lt_of_le f1133.lt sd0_1142)
      have ne1157 : b1066 ≠ f_1142 := Nat.ne_of_lt (Nat.lt_of_lt_of_le f1134.lt sd0_1142)
      have ne1158 : li_1079 ≠ f_1142 := Nat.ne_of_lt (Nat.lt_of_lt_of_le f1107.lt sd0_1142)
      have ne1159 : f_1101 ≠ f_1142 := Nat.ne_of_lt (Nat.lt_of_lt_of_le f1102.lt sd0_1142)
      have ne1160 : r_1101 ≠ f_1142 := Nat.ne_of_lt (Nat.lt_of_lt_of_le f1105.lt sd0_1142)
      have ne1161 : b_1101 ≠ f_1142 := Nat.ne_of_lt (Nat.lt_of_lt_of_le f1111.lt sd0_1142)
      have ge1162 : n0 ≤ f_1142 := Nat.le_trans z1140 sd0_1142
      have ne1163 : r_1053 ≠ r_1142 := own_on sd1_1142 ge1058 f1133.lt
      have ne1164 : b1066 ≠ r_1142 := own_on sd1_1142 ge1070 f1134.lt
      have ne1165 : li_1079 ≠ r_1142 := own_on sd1_1142 ge1091 f1107.lt
      have ne1166 : f_1101 ≠ r_1142 := own_on sd1_1142 ge1119 f1102.lt
      have ne1167 : b_1101 ≠ r_1142 := own_on sd1_1142 ge1128 f1111.lt
      have f1168 := own_staKeep f1129 Kq1142 (nsS f1107.nostat (nsS f1111.nostat ns0))
      have f1169 := own_staKeep f1130 Kq1142 (nsS f1107.nostat (nsS f1111.nostat ns0))
      have f1170 := f1131.keep Kq1142 (ninS ne1087 (ninS ne1123 nin0))
      have f1171 := f1132.keep Kq1142
      have f1172 := f1133.keep Kq1142
      have f1173 := f1134.keep Kq1142
      have f1174 := f1135.keep Kq1142 (ninS ne1090 (ninS ne1126 nin0))
      have f1175 := f1107.keep Kq1142
      have f1176 := f1102.keep Kq1142
      have f1177 := f1103.keep Kq1142 (ninS (Ne.symm ne1118) (ninS sd3_1101 nin0))
      have f1178 := f1104.keep Kq1142 (ninS (Ne.symm ne1118) (ninS sd3_1101 nin0))
      have f1179 := f1105.keep Kq1142
      have f1180 := f1106.keep Kq1142 (ninS (Ne.symm ne1122) (ninS sd4_1101 nin0))
      have z1185 := Nat.le_trans z1140 Kq1142.1
      have f1186 := f1141.keep Kq1142 (allS ge1091 (allS ge1128 all0)) (nsS f1107.nostat (nsS f1111.nostat ns0))
      show own_Go _ _ _ _ _ (State.setTop _ (mkF _ 133 _ [(.ref b1066)]))
      refine own_astore X1142 hx 135 rfl (hb hby at_133) rfl #[.val (.int i0), .val (.long i1), .second, .val (.long i2), .second, .val (.int i3), .val (.ref a6), .val (.ref nm1), .val (.ref r_1053), .val (.int (0 : Int32)), .val (.ref b1066), .val (.ref b1066), .val (.ref b1066), .unset, .unset, .unset] rfl ?_
      refine own_aload X1142 hx 137 rfl (hb hby at_135) rfl rfl ?_
      refine own_aload X1142 hx 139 rfl (hb hby at_137) rfl rfl ?_
      refine own_acmp X1142 hx true 142 (hb hby at_139) rfl rfl (decide_eq_true rfl) (by decide) (by decide) ?_
      refine own_aload X1142 hx 144 rfl (hb hby at_142) rfl rfl ?_
      refine own_aload X1142 hx 146 rfl (hb hby at_144) rfl rfl ?_
      refine own_acmp X1142 hx true 151 (hb hby at_146) rfl rfl (decide_eq_true rfl) (by decide) (by decide) ?_
      refine own_aload X1142 hx 153 rfl (hb hby at_151) rfl rfl ?_
      refine own_virtual X1142 hx hZ (y := (⟨"com/example/measured_reasoner/measuredreasoner/Summary", "fields", "()Ljava/util/List;"⟩ : MethodName)) (z := (⟨"com/example/measured_reasoner/measuredreasoner/Summary", "fields", "()Ljava/util/List;"⟩ : MethodName)) hown (own_hw hw 139 rfl) (own_hw hw 140 rfl) (own_hw hw 142 rfl) (own_hw hw 141 rfl) rfl (a := b1066) f1173 (by decide) (rm_fs l Z a0 hw [] b1066 li_1079 mA mL mR T1142.heap n0 z1185 f1174 f1148 M1 M2 M3 nAL nAR) (own_hw hw 143 rfl) (own_hw hw 29 rfl) (by decide) rfl (by rw [hml]; rfl) [] 0 (by decide) (Nat.le_of_eq rfl) (by decide) (by decide) (lenOf own_pd29 rfl) rfl rfl 156 rfl (hb hby at_153) fun v1187 T1187 Lc1187 X1187 hQ1187 => ?_
      obtain ⟨u_1187, rfl, Nq1187, Kq1187, sd0_1187, f1188, f1189, f1190⟩ := hQ1187
      have N1191 := Fr.app N1153 Nq1187
      have ne1192 : aE ≠ u_1187 := Nat.ne_of_lt (Nat.lt_of_lt_of_le f1170.lt sd0_1187)
      have ne1193 : nm1 ≠ u_1187 := Nat.ne_of_lt (Nat.lt_of_lt_of_le f1171.lt sd0_1187)
      have ne1194 : r_1053 ≠ u_1187 := Nat.ne_of_lt (Nat.lt_of_lt_of_le f1172.lt sd0_1187)
      have ne1195 : b1066 ≠ u_1187 := Nat.ne_of_lt (Nat.lt_of_lt_of_le f1173.lt sd0_1187)
      have ne1196 : li_1079 ≠ u_1187 := Nat.ne_of_lt (Nat.lt_of_lt_of_le f1148.lt sd0_1187)
      have ne1197 : f_1101 ≠ u_1187 := Nat.ne_of_lt (Nat.lt_of_lt_of_le f1176.lt sd0_1187)
      have ne1198 : r_1101 ≠ u_1187 := Nat.ne_of_lt (Nat.lt_of_lt_of_le f1179.lt sd0_1187)
      have ne1199 : f_1142 ≠ u_1187 := Nat.ne_of_lt (Nat.lt_of_lt_of_le f1143.lt sd0_1187)
      have ne1200 : r_1142 ≠ u_1187 := Nat.ne_of_lt (Nat.lt_of_lt_of_le f1146.lt sd0_1187)
      have ne1201 : b_1101 ≠ u_1187 := Nat.ne_of_lt (Nat.lt_of_lt_of_le f1152.lt sd0_1187)
      have ge1202 : n0 ≤ u_1187 := Nat.le_trans z1185 sd0_1187
      have f1203 := own_staKeep f1168 Kq1187 ns0
      have f1204 := own_staKeep f1169 Kq1187 ns0
      have f1205 := f1170.keep Kq1187 nin0
      have f1206 := f1171.keep Kq1187
      have f1207 := f1172.keep Kq1187
      have f1208 := f1173.keep Kq1187
      have f1209 := f1174.keep Kq1187 nin0
      have f1210 := f1148.keep Kq1187
      have f1211 := f1176.keep Kq1187
      have f1212 := f1177.keep Kq1187 nin0
      have f1213 := f1178.keep Kq1187 nin0
      have f1214 := f1179.keep Kq1187
      have f1215 := f1180.keep Kq1187 nin0
      have f1216 := f1143.keep Kq1187
      have f1217 := f1144.keep Kq1187 nin0
      have f1218 := f1145.keep Kq1187 nin0
      have f1219 := f1146.keep Kq1187
      have f1220 := f1147.keep Kq1187 nin0
      have f1221 := f1149.keep Kq1187 nin0
      have f1222 := f1150.keep Kq1187 nin0
      have f1223 := f1151.keep Kq1187 nin0
      have f1224 := f1152.keep Kq1187 nin0
      have z1225 := Nat.le_trans z1185 Kq1187.1
      have f1226 := f1186.keep Kq1187 all0 ns0
      show own_Go _ _ _ _ _ (State.setTop _ (mkF _ 156 _ [(.ref u_1187)]))
      refine own_astore X1187 hx 158 rfl (hb hby at_156) rfl #[.val (.int i0), .val (.long i1), .second, .val (.long i2), .second, .val (.int i3), .val (.ref a6), .val (.ref nm1), .val (.ref r_1053), .val (.int (0 : Int32)), .val (.ref b1066), .val (.ref b1066), .val (.ref b1066), .val (.ref u_1187), .unset, .unset] rfl ?_
      refine own_iload X1187 hx 160 rfl (hb hby at_158) rfl ?_
      refine own_ifYes X1187 hx 167 (hb hby at_160) (by decide) (by decide) rfl ?_
      refine own_iconst X1187 hx 168 rfl (hb hby at_167) (0 : Int32) rfl ?_
      refine own_istore X1187 hx 170 rfl (hb hby at_168) #[.val (.int i0), .val (.long i1), .second, .val (.long i2), .second, .val (.int i3), .val (.ref a6), .val (.ref nm1), .val (.ref r_1053), .val (.int (0 : Int32)), .val (.ref b1066), .val (.ref b1066), .val (.ref b1066), .val (.ref u_1187), .val (.int (0 : Int32)), .unset] rfl ?_
      refine own_aload X1187 hx 172 rfl (hb hby at_170) rfl rfl ?_
      refine own_iface X1187 hx hZ (C := "java/util/Collections$UnmodifiableRandomAccessList") (xi := (⟨"java/util/List", "size", "()I"⟩ : MethodName)) (y := (⟨"java/util/Collections$UnmodifiableCollection", "size", "()I"⟩ : MethodName)) hown (own_hw hw 186 rfl) (own_hw hw 187 rfl) (own_hw hw 188 rfl) rfl (own_hw hw 189 rfl) (own_hw hw 190 rfl) (own_hw hw 191 rfl) (own_hw hw 192 rfl) (own_hw hw 193 rfl) (a := u_1187) f1188 (by decide) (rm_usize l Z a0 hw [] u_1187 li_1079 (2 : Int32) T1187.heap n0 z1225 f1189 f1210 f1223) (own_hw hw 194 rfl) (own_hw hw 179 rfl) (by decide) rfl (by rw [hml]; rfl) [] 0 (by decide) (Nat.le_of_eq rfl) (by decide) (by decide) (lenOf own_pd10 rfl) rfl rfl 177 rfl (hb hby at_172) fun v1227 T1227 Lc1227 X1227 hQ1227 => ?_
      obtain ⟨rfl, Nq1227, e1227⟩ := hQ1227
      have N1228 := Fr.app N1191 Nq1227
      show own_Go _ _ _ _ _ (State.setTop _ (mkF _ 177 _ [(.int (2 : Int32))]))
      refine own_iload X1227 hx 179 rfl (hb hby at_177) rfl ?_
      refine own_iconst X1227 hx 180 rfl (hb hby at_179) (2 : Int32) rfl ?_
      refine own_iadd X1227 hx 181 rfl (hb hby at_180) (2 : Int32) rfl ?_
      refine own_icmpYes X1227 hx 186 (hb hby at_181) (by decide) (by decide) rfl ?_
      refine own_iload X1227 hx 188 rfl (hb hby at_186) rfl ?_
      refine own_ifYes X1227 hx 230 (hb hby at_188) (by decide) (by decide) rfl ?_
      refine own_aload X1227 hx 232 rfl (hb hby at_230) rfl rfl ?_
      refine own_iload X1227 hx 234 rfl (hb hby at_232) rfl ?_
      refine own_iface X1227 hx hZ (C := "java/util/Collections$UnmodifiableRandomAccessList") (xi := (⟨"java/util/List", "get", "(I)Ljava/lang/Object;"⟩ : MethodName)) (y := (⟨"java/util/Collections$UnmodifiableList", "get", "(I)Ljava/lang/Object;"⟩ : MethodName)) hown (own_hw hw 204 rfl) (own_hw hw 205 rfl) (own_hw hw 206 rfl) rfl (own_hw hw 207 rfl) (own_hw hw 208 rfl) (own_hw hw 209 rfl) (own_hw hw 210 rfl) (own_hw hw 193 rfl) (a := u_1187) f1188 (by decide) (rm_uget l Z a0 hw [] u_1187 (0 : Int32) li_1079 (2 : Int32) b_1101 kb_1101 [(.ref f_1101), (.ref f_1142), .null, .null, .null, .null, .null, .null, .null, .null] f_1101 T1187.heap n0 z1225 f1190 f1210 f1222 f1223 f1224 (by decide) (by decide) ⟨by decide, by decide⟩ rfl) (own_hw hw 211 rfl) (own_hw hw 173 rfl) (by decide) e1227 (by rw [hml]; rfl) [(.int (0 : Int32))] 0 (by decide) (Nat.le_of_eq rfl) (by decide) (by decide) (lenOf own_pd12 rfl) rfl rfl 239 rfl (hb hby at_234) fun v1229 T1229 Lc1229 X1229 hQ1229 => ?_
      obtain ⟨rfl, Nq1229, e1229⟩ := hQ1229
      have N1230 := Fr.app N1228 Nq1229
      show own_Go _ _ _ _ _ (State.setTop _ (mkF _ 239 _ [(.ref f_1101)]))
      obtain ⟨T1231, X1231, e1231, st1231⟩ := castY X1229 hx hZ hown (own_hw hw 231 rfl) e1229 (Ins.self f1211) (g := (mkF m 239 #[.val (.int i0), .val (.long i1), .second, .val (.long i2), .second, .val (.int i3), .val (.ref a6), .val (.ref nm1), .val (.ref r_1053), .val (.int (0 : Int32)), .val (.ref b1066), .val (.ref b1066), .val (.ref b1066), .val (.ref u_1187), .val (.int (0 : Int32)), .unset] [(.ref f_1101)])) rfl rfl (hb hby at_239)
      refine own_st st1231 ?_
      show own_Go _ _ _ _ _ (State.setTop _ (mkF _ 242 #[.val (.int i0), .val (.long i1), .second, .val (.long i2), .second, .val (.int i3), .val (.ref a6), .val (.ref nm1), .val (.ref r_1053), .val (.int (0 : Int32)), .val (.ref b1066), .val (.ref b1066), .val (.ref b1066), .val (.ref u_1187), .val (.int (0 : Int32)), .unset] [(.ref f_1101)]))
      refine own_aload X1231 hx 244 rfl (hb hby at_242) rfl rfl ?_
      refine own_lloadN X1231 hx 245 rfl (hb hby at_244) rfl ?_
      refine own_callS X1231 hx hZ (y := (⟨"com/example/measured_reasoner/measuredreasoner/SummaryCountPinLaw", "isCount", "(Lcom/example/measured_reasoner/measuredreasoner/Summary$Field;Ljava/lang/String;J)Z"⟩ : MethodName)) hown (own_hw hw 233 rfl) (own_hw hw 234 rfl) (by decide) (rm_is l Z a0 hw [] f_1101 nm1 i1 r_1101 T1187.heap n0 z1225 f1211 f1212 f1213 f1214 f1215 f1206) (own_hw hw 236 rfl) (own_hw hw 235 rfl) (by decide) e1231 (by rw [hml]; rfl) [(.ref f_1101), (.ref nm1), (.long i1)] 0 (by decide) (Nat.le_of_eq rfl) (by decide) (by decide) (lenOf own_pd30 rfl) rfl rfl 248 rfl (hb hby at_245) fun v1232 T1232 Lc1232 X1232 hQ1232 => ?_
      obtain ⟨rfl, Nq1232, e1232⟩ := hQ1232
      have N1233 := Fr.app N1230 Nq1232
      show own_Go _ _ _ _ _ (State.setTop _ (mkF _ 248 _ [(.int (1 : Int32))]))
      refine own_ifNo X1232 hx 251 rfl (hb hby at_248) (by decide) ?_
      refine own_aload X1232 hx 253 rfl (hb hby at_251) rfl rfl ?_
      refine own_iload X1232 hx 255 rfl (hb hby at_253) rfl ?_
      refine own_iconst X1232 hx 256 rfl (hb hby at_255) (1 : Int32) rfl ?_
      refine own_iadd X1232 hx 257 rfl (hb hby at_256) (1 : Int32) rfl ?_
      refine own_iface X1232 hx hZ (C := "java/util/Collections$UnmodifiableRandomAccessList") (xi := (⟨"java/util/List", "get", "(I)Ljava/lang/Object;"⟩ : MethodName)) (y := (⟨"java/util/Collections$UnmodifiableList", "get", "(I)Ljava/lang/Object;"⟩ : MethodName)) hown (own_hw hw 204 rfl) (own_hw hw 205 rfl) (own_hw hw 206 rfl) rfl (own_hw hw 207 rfl) (own_hw hw 208 rfl) (own_hw hw 209 rfl) (own_hw hw 210 rfl) (own_hw hw 193 rfl) (a := u_1187) f1188 (by decide) (rm_uget l Z a0 hw [] u_1187 (1 : Int32) li_1079 (2 : Int32) b_1101 kb_1101 [(.ref f_1101), (.ref f_1142), .null, .null, .null, .null, .null, .null, .null, .null] f_1142 T1187.heap n0 z1225 f1190 f1210 f1222 f1223 f1224 (by decide) (by decide) ⟨by decide, by decide⟩ rfl) (own_hw hw 211 rfl) (own_hw hw 173 rfl) (by decide) e1232 (by rw [hml]; rfl) [(.int (1 : Int32))] 0 (by decide) (Nat.le_of_eq rfl) (by decide) (by decide) (lenOf own_pd12 rfl) rfl rfl 262 rfl (hb hby at_257) fun v1234 T1234 Lc1234 X1234 hQ1234 => ?_
      obtain ⟨rfl, Nq1234, e1234⟩ := hQ1234
      have N1235 := Fr.app N1233 Nq1234
      show own_Go _ _ _ _ _ (State.setTop _ (mkF _ 262 _ [(.ref f_1142)]))
      obtain ⟨T1236, X1236, e1236, st1236⟩ := castY X1234 hx hZ hown (own_hw hw 231 rfl) e1234 (Ins.self f1216) (g := (mkF m 262 #[.val (.int i0), .val (.long i1), .second, .val (.long i2), .second, .val (.int i3), .val (.ref a6), .val (.ref nm1), .val (.ref r_1053), .val (.int (0 : Int32)), .val (.ref b1066), .val (.ref b1066), .val (.ref b1066), .val (.ref u_1187), .val (.int (0 : Int32)), .unset] [(.ref f_1142)])) rfl rfl (hb hby at_262)
      refine own_st st1236 ?_
      show own_Go _ _ _ _ _ (State.setTop _ (mkF _ 265 #[.val (.int i0), .val (.long i1), .second, .val (.long i2), .second, .val (.int i3), .val (.ref a6), .val (.ref nm1), .val (.ref r_1053), .val (.int (0 : Int32)), .val (.ref b1066), .val (.ref b1066), .val (.ref b1066), .val (.ref u_1187), .val (.int (0 : Int32)), .unset] [(.ref f_1142)]))
      refine own_aload X1236 hx 267 rfl (hb hby at_265) rfl rfl ?_
      refine own_lloadN X1236 hx 268 rfl (hb hby at_267) rfl ?_
      refine own_callS X1236 hx hZ (y := (⟨"com/example/measured_reasoner/measuredreasoner/SummaryCountPinLaw", "isCount", "(Lcom/example/measured_reasoner/measuredreasoner/Summary$Field;Ljava/lang/String;J)Z"⟩ : MethodName)) hown (own_hw hw 233 rfl) (own_hw hw 234 rfl) (by decide) (rm_is l Z a0 hw [] f_1142 r_1053 i2 r_1142 T1187.heap n0 z1225 f1216 f1217 f1218 f1219 f1220 f1207) (own_hw hw 236 rfl) (own_hw hw 235 rfl) (by decide) e1236 (by rw [hml]; rfl) [(.ref f_1142), (.ref r_1053), (.long i2)] 0 (by decide) (Nat.le_of_eq rfl) (by decide) (by decide) (lenOf own_pd30 rfl) rfl rfl 271 rfl (hb hby at_268) fun v1237 T1237 Lc1237 X1237 hQ1237 => ?_
      obtain ⟨rfl, Nq1237, e1237⟩ := hQ1237
      have N1238 := Fr.app N1235 Nq1237
      show own_Go _ _ _ _ _ (State.setTop _ (mkF _ 271 _ [(.int (1 : Int32))]))
      refine own_ifNo X1237 hx 274 rfl (hb hby at_271) (by decide) ?_
      refine own_iconst X1237 hx 275 rfl (hb hby at_274) (1 : Int32) rfl ?_
      refine own_goto X1237 hx 279 (hb hby at_275) (by decide) rfl ?_
      refine own_ret X1237 (some (.int (1 : Int32))) (fun h => by rw [Bd.returns] at h; cases h) Bd.notSynchronized (by decide) (by decide) ?_ (fun fs hr => retN X1237 hx (t := .boolean) Bd.returns (by simp) (hb hby at_279) hr)
      show Q_rm0 Z i0 i1 i2 i3 cs aE kE mA mL mR h0 n0 _ T1237.heap _
      rw [e1237]
      exact ⟨rfl, N1238⟩
    ·
      refine own_ifNo X1053 hx 77 rfl (hb hby at_74) ((if0 _ _).trans (feq hc1065).1) ?_
      refine own_iconst X1053 hx 78 rfl (hb hby at_77) (1 : Int32) rfl ?_
      refine own_goto X1053 hx 82 (hb hby at_78) (by decide) rfl ?_
      refine own_istore X1053 hx 84 rfl (hb hby at_82) #[.val (.int i0), .val (.long i1), .second, .val (.long i2), .second, .val (.int i3), .val (.ref a6), .val (.ref nm1), .val (.ref r_1053), .val (.int (1 : Int32)), .unset, .unset, .unset, .unset, .unset, .unset] rfl ?_
      refine own_new X1053 hx hZ hown (own_hw hw 27 rfl) (own_hw hw 28 rfl) (own_hw hw 29 rfl) rfl 87 rfl (hb hby at_84) (by decide) (by decide) fun T1239 h1239 b1239 g1239 X1239 e1239 E1239 A1239 D1239 => ?_
      have ne1240 : aE ≠ b1239 := Nat.ne_of_lt (Nat.lt_of_lt_of_le f1061.lt (Nat.le_of_eq g1239.symm))
      have ne1241 : nm1 ≠ b1239 := Nat.ne_of_lt (Nat.lt_of_lt_of_le f1062.lt (Nat.le_of_eq g1239.symm))
      have ne1242 : r_1053 ≠ b1239 := Nat.ne_of_lt (Nat.lt_of_lt_of_le f1054.lt (Nat.le_of_eq g1239.symm))
      have ge1243 : n0 ≤ b1239 := Nat.le_trans z1063 (Nat.le_of_eq g1239.symm)
      have f1244 := f1059.ext E1239
      have f1245 := f1060.ext E1239
      have f1246 := f1061.ext E1239
      have f1247 := f1062.ext E1239
      have f1248 := f1064.ext E1239
      have f1249 := f1054.ext E1239
      have z1250 := Nat.le_trans z1063 E1239.1
      have f1251 : Fld Z h1239 b1239 "com/example/measured_reasoner/measuredreasoner/Summary" "fields" "Ljava/util/List;" .null := D1239 (Or.inr (own_hw hw 59 rfl)) (ty := (.object "java/util/List")) (by decide)
      refine own_dup X1239 hx 88 rfl (hb hby at_87) rfl ?_
      refine own_special X1239 hx hZ (y := (⟨"com/example/measured_reasoner/measuredreasoner/Summary", "<init>", "()V"⟩ : MethodName)) hown rfl (own_hw hw 30 rfl) (own_hw hw 31 rfl) (a := b1239) (by decide) rfl (rm_su l Z a0 hw [] b1239 aE h1239 n0 z1250 A1239 f1251 ge1243 f1245) (own_hw hw 32 rfl) (own_hw hw 29 rfl) (by decide) e1239 (by rw [hml]; rfl) [] 1 (by decide) (Nat.le_of_eq rfl) (by decide) (by decide) (lenOf own_pd0 rfl) rfl rfl 91 rfl (hb hby at_88) fun v1252 T1252 Lc1252 X1252 hQ1252 => ?_
      obtain ⟨li_1252, rfl, Nq1252, Kq1252, sd0_1252, f1253, f1254, f1255, f1256, f1257, f1258⟩ := hQ1252
      have N1259 := Fr.app N1055 Nq1252
      have ne1260 : aE ≠ li_1252 := Nat.ne_of_lt (Nat.lt_of_lt_of_le f1246.lt sd0_1252)
      have ne1261 : nm1 ≠ li_1252 := Nat.ne_of_lt (Nat.lt_of_lt_of_le f1247.lt sd0_1252)
      have ne1262 : r_1053 ≠ li_1252 := Nat.ne_of_lt (Nat.lt_of_lt_of_le f1249.lt sd0_1252)
      have ne1263 : b1239 ≠ li_1252 := Nat.ne_of_lt (Nat.lt_of_lt_of_le A1239.lt sd0_1252)
      have ge1264 : n0 ≤ li_1252 := Nat.le_trans z1250 sd0_1252
      have f1265 := own_staKeep f1244 Kq1252 (nsS A1239.nostat ns0)
      have f1266 := own_staKeep f1245 Kq1252 (nsS A1239.nostat ns0)
      have f1267 := f1246.keep Kq1252 (ninS ne1240 nin0)
      have f1268 := f1247.keep Kq1252
      have f1269 := f1249.keep Kq1252
      have f1270 := A1239.keep Kq1252
      have z1272 := Nat.le_trans z1250 Kq1252.1
      have f1273 := f1248.keep Kq1252 (allS ge1243 all0) (nsS A1239.nostat ns0)
      show own_Go _ _ _ _ _ (State.setTop _ (mkF _ 91 _ [(.ref b1239)]))
      refine own_astore X1252 hx 93 rfl (hb hby at_91) rfl #[.val (.int i0), .val (.long i1), .second, .val (.long i2), .second, .val (.int i3), .val (.ref a6), .val (.ref nm1), .val (.ref r_1053), .val (.int (1 : Int32)), .val (.ref b1239), .unset, .unset, .unset, .unset, .unset] rfl ?_
      refine own_iload X1252 hx 95 rfl (hb hby at_93) rfl ?_
      refine own_ifNo X1252 hx 98 rfl (hb hby at_95) (by decide) ?_
      refine own_aload X1252 hx 100 rfl (hb hby at_98) rfl rfl ?_
      refine own_aload X1252 hx 102 rfl (hb hby at_100) rfl rfl ?_
      refine own_iload X1252 hx 104 rfl (hb hby at_102) rfl ?_
      refine own_iconst X1252 hx 105 rfl (hb hby at_104) (2 : Int32) rfl ?_
      refine own_iushr X1252 hx 106 rfl (hb hby at_105) _ rfl ?_
      refine own_sipush X1252 hx 109 rfl (hb hby at_106) (255 : Int32) rfl ?_
      refine own_iand X1252 hx 110 rfl (hb hby at_109) _ rfl ?_
      refine own_i2d X1252 hx 111 rfl (hb hby at_110) _ rfl ?_
      refine own_virtual X1252 hx hZ (y := (⟨"com/example/measured_reasoner/measuredreasoner/Summary", "mean", "(Ljava/lang/String;D)Lcom/example/measured_reasoner/measuredreasoner/Summary;"⟩ : MethodName)) (z := (⟨"com/example/measured_reasoner/measuredreasoner/Summary", "mean", "(Ljava/lang/String;D)Lcom/example/measured_reasoner/measuredreasoner/Summary;"⟩ : MethodName)) hown (own_hw hw 275 rfl) (own_hw hw 276 rfl) (own_hw hw 278 rfl) (own_hw hw 277 rfl) rfl (a := b1239) f1253 (by decide) (rm_mean0 l Z a0 hw [] b1239 r_1053 (FP.i2d (((i3.toUInt32 >>> ((2 : Int32) &&& 31).toUInt32).toInt32) &&& (255 : Int32))) li_1252 (0 : Int32) aE kE T1252.heap n0 z1272 f1254 f1255 f1256 f1257 f1258 f1267 f1266 (Ne.symm ne1260) ge1264) (own_hw hw 279 rfl) (own_hw hw 29 rfl) (by decide) rfl (by rw [hml]; rfl) [(.ref r_1053), (.double (FP.i2d (((i3.toUInt32 >>> ((2 : Int32) &&& 31).toUInt32).toInt32) &&& (255 : Int32))))] 0 (by decide) (Nat.le_of_eq rfl) (by decide) (by decide) (lenOf own_pd31 rfl) rfl rfl 114 rfl (hb hby at_111) fun v1274 T1274 Lc1274 X1274 hQ1274 => ?_
      obtain ⟨f_1274, r_1274, b_1274, kb_1274, rfl, Nq1274, Kq1274, sd0_1274, sd1_1274, sd2_1274, sd3_1274, sd4_1274, f1275, f1276, f1277, f1278, f1279, f1280, f1281, f1282, f1283, f1284, f1285⟩ := hQ1274
      have N1286 := Fr.app N1259 Nq1274
      have ne1287 : aE ≠ f_1274 := Nat.ne_of_lt (Nat.lt_of_lt_of_le f1267.lt sd0_1274)
      have ne1288 : nm1 ≠ f_1274 := Nat.ne_of_lt (Nat.lt_of_lt_of_le f1268.lt sd0_1274)
      have ne1289 : r_1053 ≠ f_1274 := Nat.ne_of_lt (Nat.lt_of_lt_of_le f1269.lt sd0_1274)
      have ne1290 : b1239 ≠ f_1274 := Nat.ne_of_lt (Nat.lt_of_lt_of_le f1253.lt sd0_1274)
      have ne1291 : li_1252 ≠ f_1274 := Nat.ne_of_lt (Nat.lt_of_lt_of_le f1255.lt sd0_1274)
      have ge1292 : n0 ≤ f_1274 := Nat.le_trans z1272 sd0_1274
      have ne1293 : r_1053 ≠ r_1274 := own_on sd1_1274 ge1058 f1269.lt
      have ne1294 : b1239 ≠ r_1274 := own_on sd1_1274 ge1243 f1253.lt
      have ne1295 : li_1252 ≠ r_1274 := own_on sd1_1274 ge1264 f1255.lt
      have ne1296 : aE ≠ b_1274 := Nat.ne_of_lt (Nat.lt_of_lt_of_le f1267.lt sd2_1274)
      have ne1297 : nm1 ≠ b_1274 := Nat.ne_of_lt (Nat.lt_of_lt_of_le f1268.lt sd2_1274)
      have ne1298 : r_1053 ≠ b_1274 := Nat.ne_of_lt (Nat.lt_of_lt_of_le f1269.lt sd2_1274)
      have ne1299 : b1239 ≠ b_1274 := Nat.ne_of_lt (Nat.lt_of_lt_of_le f1253.lt sd2_1274)
      have ne1300 : li_1252 ≠ b_1274 := Nat.ne_of_lt (Nat.lt_of_lt_of_le f1255.lt sd2_1274)
      have ge1301 : n0 ≤ b_1274 := Nat.le_trans z1272 sd2_1274
      have f1302 := own_staKeep f1265 Kq1274 (nsS f1255.nostat ns0)
      have f1303 := own_staKeep f1266 Kq1274 (nsS f1255.nostat ns0)
      have f1304 := f1267.keep Kq1274 (ninS ne1260 nin0)
      have f1305 := f1268.keep Kq1274
      have f1306 := f1269.keep Kq1274
      have f1307 := f1253.keep Kq1274
      have f1308 := f1254.keep Kq1274 (ninS ne1263 nin0)
      have f1309 := f1255.keep Kq1274
      have z1313 := Nat.le_trans z1272 Kq1274.1
      have f1314 := f1273.keep Kq1274 (allS ge1264 all0) (nsS f1255.nostat ns0)
      show own_Go _ _ _ _ _ (State.setTop _ (mkF _ 114 _ [(.ref b1239)]))
      refine own_pop X1274 hx 115 rfl (hb hby at_114) rfl ?_
      refine own_aload X1274 hx 117 rfl (hb hby at_115) rfl rfl ?_
      refine own_aload X1274 hx 119 rfl (hb hby at_117) rfl rfl ?_
      refine own_lloadN X1274 hx 120 rfl (hb hby at_119) rfl ?_
      refine own_virtual X1274 hx hZ (y := (⟨"com/example/measured_reasoner/measuredreasoner/Summary", "count", "(Ljava/lang/String;J)Lcom/example/measured_reasoner/measuredreasoner/Summary;"⟩ : MethodName)) (z := (⟨"com/example/measured_reasoner/measuredreasoner/Summary", "count", "(Ljava/lang/String;J)Lcom/example/measured_reasoner/measuredreasoner/Summary;"⟩ : MethodName)) hown (own_hw hw 60 rfl) (own_hw hw 61 rfl) (own_hw hw 63 rfl) (own_hw hw 62 rfl) rfl (a := b1239) f1307 (by decide) (rm_count1 l Z a0 hw [] b1239 nm1 i1 li_1252 ((0 : Int32) + (1 : Int32)) b_1274 kb_1274 f_1274 T1274.heap n0 z1313 f1308 f1280 f1281 f1282 f1283 f1284 f1285 ge1301 ne1300 ge1264 f1314) (own_hw hw 64 rfl) (own_hw hw 29 rfl) (by decide) rfl (by rw [hml]; rfl) [(.ref nm1), (.long i1)] 0 (by decide) (Nat.le_of_eq rfl) (by decide) (by decide) (lenOf own_pd28 rfl) rfl rfl 123 rfl (hb hby at_120) fun v1315 T1315 Lc1315 X1315 hQ1315 => ?_
      obtain ⟨f_1315, r_1315, rfl, Nq1315, Kq1315, sd0_1315, sd1_1315, f1316, f1317, f1318, f1319, f1320, f1321, f1322, f1323, f1324, f1325⟩ := hQ1315
      have N1326 := Fr.app N1286 Nq1315
      have ne1327 : aE ≠ f_1315 := Nat.ne_of_lt (Nat.lt_of_lt_of_le f1304.lt sd0_1315)
      have ne1328 : nm1 ≠ f_1315 := Nat.ne_of_lt (Nat.lt_of_lt_of_le f1305.lt sd0_1315)
      have ne1329 : r_1053 ≠ f_1315 := Nat.ne_of_lt (Nat.lt_of_lt_of_le f1306.lt sd0_1315)
      have ne1330 : b1239 ≠ f_1315 := Nat.ne_of_lt (Nat.lt_of_lt_of_le f1307.lt sd0_1315)
      have ne1331 : li_1252 ≠ f_1315 := Nat.ne_of_lt (Nat.lt_of_lt_of_le f1280.lt sd0_1315)
      have ne1332 : f_1274 ≠ f_1315 := Nat.ne_of_lt (Nat.lt_of_lt_of_le f1275.lt sd0_1315)
      have ne1333 : r_1274 ≠ f_1315 := Nat.ne_of_lt (Nat.lt_of_lt_of_le f1278.lt sd0_1315)
      have ne1334 : b_1274 ≠ f_1315 := Nat.ne_of_lt (Nat.lt_of_lt_of_le f1284.lt sd0_1315)
      have ge1335 : n0 ≤ f_1315 := Nat.le_trans z1313 sd0_1315
      have ne1336 : r_1053 ≠ r_1315 := own_on sd1_1315 ge1058 f1306.lt
      have ne1337 : b1239 ≠ r_1315 := own_on sd1_1315 ge1243 f1307.lt
      have ne1338 : li_1252 ≠ r_1315 := own_on sd1_1315 ge1264 f1280.lt
      have ne1339 : f_1274 ≠ r_1315 := own_on sd1_1315 ge1292 f1275.lt
      have ne1340 : b_1274 ≠ r_1315 := own_on sd1_1315 ge1301 f1284.lt
      have f1341 := own_staKeep f1302 Kq1315 (nsS f1280.nostat (nsS f1284.nostat ns0))
      have f1342 := own_staKeep f1303 Kq1315 (nsS f1280.nostat (nsS f1284.nostat ns0))
      have f1343 := f1304.keep Kq1315 (ninS ne1260 (ninS ne1296 nin0))
      have f1344 := f1305.keep Kq1315
      have f1345 := f1306.keep Kq1315
      have f1346 := f1307.keep Kq1315
      have f1347 := f1308.keep Kq1315 (ninS ne1263 (ninS ne1299 nin0))
      have f1348 := f1280.keep Kq1315
      have f1349 := f1275.keep Kq1315
      have f1350 := f1276.keep Kq1315 (ninS (Ne.symm ne1291) (ninS sd3_1274 nin0))
      have f1351 := f1277.keep Kq1315 (ninS (Ne.symm ne1291) (ninS sd3_1274 nin0))
      have f1352 := f1278.keep Kq1315
      have f1353 := f1279.keep Kq1315 (ninS (Ne.symm ne1295) (ninS sd4_1274 nin0))
      have z1358 := Nat.le_trans z1313 Kq1315.1
      have f1359 := f1314.keep Kq1315 (allS ge1264 (allS ge1301 all0)) (nsS f1280.nostat (nsS f1284.nostat ns0))
      show own_Go _ _ _ _ _ (State.setTop _ (mkF _ 123 _ [(.ref b1239)]))
      refine own_astore X1315 hx 125 rfl (hb hby at_123) rfl #[.val (.int i0), .val (.long i1), .second, .val (.long i2), .second, .val (.int i3), .val (.ref a6), .val (.ref nm1), .val (.ref r_1053), .val (.int (1 : Int32)), .val (.ref b1239), .val (.ref b1239), .unset, .unset, .unset, .unset] rfl ?_
      refine own_aload X1315 hx 127 rfl (hb hby at_125) rfl rfl ?_
      refine own_aload X1315 hx 129 rfl (hb hby at_127) rfl rfl ?_
      refine own_lloadN X1315 hx 130 rfl (hb hby at_129) rfl ?_
      refine own_virtual X1315 hx hZ (y := (⟨"com/example/measured_reasoner/measuredreasoner/Summary", "count", "(Ljava/lang/String;J)Lcom/example/measured_reasoner/measuredreasoner/Summary;"⟩ : MethodName)) (z := (⟨"com/example/measured_reasoner/measuredreasoner/Summary", "count", "(Ljava/lang/String;J)Lcom/example/measured_reasoner/measuredreasoner/Summary;"⟩ : MethodName)) hown (own_hw hw 60 rfl) (own_hw hw 61 rfl) (own_hw hw 63 rfl) (own_hw hw 62 rfl) rfl (a := b1239) f1346 (by decide) (rm_count2 l Z a0 hw [] b1239 r_1053 i2 li_1252 (((0 : Int32) + (1 : Int32)) + (1 : Int32)) b_1274 kb_1274 f_1274 f_1315 T1315.heap n0 z1358 f1347 f1321 f1322 f1323 f1324 f1325 f1285 ge1301 ne1300 ge1264 f1359) (own_hw hw 64 rfl) (own_hw hw 29 rfl) (by decide) rfl (by rw [hml]; rfl) [(.ref r_1053), (.long i2)] 0 (by decide) (Nat.le_of_eq rfl) (by decide) (by decide) (lenOf own_pd28 rfl) rfl rfl 133 rfl (hb hby at_130) fun v1360 T1360 Lc1360 X1360 hQ1360 => ?_
      obtain ⟨f_1360, r_1360, rfl, Nq1360, Kq1360, sd0_1360, sd1_1360, f1361, f1362, f1363, f1364, f1365, f1366, f1367, f1368, f1369, f1370⟩ := hQ1360
      have N1371 := Fr.app N1326 Nq1360
      have ne1372 : aE ≠ f_1360 := Nat.ne_of_lt (Nat.lt_of_lt_of_le f1343.lt sd0_1360)
      have ne1373 : nm1 ≠ f_1360 := Nat.ne_of_lt (Nat.lt_of_lt_of_le f1344.lt sd0_1360)
      have ne1374 : r_1053 ≠ f_1360 := Nat.ne_of_lt (Nat.lt_of_lt_of_le f1345.lt sd0_1360)
      have ne1375 : b1239 ≠ f_1360 := Nat.ne_of_lt (Nat.lt_of_lt_of_le f1346.lt sd0_1360)
      have ne1376 : li_1252 ≠ f_1360 := Nat.ne_of_lt (Nat.lt_of_lt_of_le f1321.lt sd0_1360)
      have ne1377 : f_1274 ≠ f_1360 := Nat.ne_of_lt (Nat.lt_of_lt_of_le f1349.lt sd0_1360)
      have ne1378 : r_1274 ≠ f_1360 := Nat.ne_of_lt (Nat.lt_of_lt_of_le f1352.lt sd0_1360)
      have ne1379 : f_1315 ≠ f_1360 := Nat.ne_of_lt (Nat.lt_of_lt_of_le f1316.lt sd0_1360)
      have ne1380 : r_1315 ≠ f_1360 := Nat.ne_of_lt (Nat.lt_of_lt_of_le f1319.lt sd0_1360)
      have ne1381 : b_1274 ≠ f_1360 := Nat.ne_of_lt (Nat.lt_of_lt_of_le f1325.lt sd0_1360)
      have ge1382 : n0 ≤ f_1360 := Nat.le_trans z1358 sd0_1360
      have ne1383 : r_1053 ≠ r_1360 := own_on sd1_1360 ge1058 f1345.lt
      have ne1384 : b1239 ≠ r_1360 := own_on sd1_1360 ge1243 f1346.lt
      have ne1385 : li_1252 ≠ r_1360 := own_on sd1_1360 ge1264 f1321.lt
      have ne1386 : f_1274 ≠ r_1360 := own_on sd1_1360 ge1292 f1349.lt
      have ne1387 : f_1315 ≠ r_1360 := own_on sd1_1360 ge1335 f1316.lt
      have ne1388 : b_1274 ≠ r_1360 := own_on sd1_1360 ge1301 f1325.lt
      have f1389 := own_staKeep f1341 Kq1360 (nsS f1321.nostat (nsS f1325.nostat ns0))
      have f1390 := own_staKeep f1342 Kq1360 (nsS f1321.nostat (nsS f1325.nostat ns0))
      have f1391 := f1343.keep Kq1360 (ninS ne1260 (ninS ne1296 nin0))
      have f1392 := f1344.keep Kq1360
      have f1393 := f1345.keep Kq1360
      have f1394 := f1346.keep Kq1360
      have f1395 := f1347.keep Kq1360 (ninS ne1263 (ninS ne1299 nin0))
      have f1396 := f1321.keep Kq1360
      have f1397 := f1349.keep Kq1360
      have f1398 := f1350.keep Kq1360 (ninS (Ne.symm ne1291) (ninS sd3_1274 nin0))
      have f1399 := f1351.keep Kq1360 (ninS (Ne.symm ne1291) (ninS sd3_1274 nin0))
      have f1400 := f1352.keep Kq1360
      have f1401 := f1353.keep Kq1360 (ninS (Ne.symm ne1295) (ninS sd4_1274 nin0))
      have f1402 := f1316.keep Kq1360
      have f1403 := f1317.keep Kq1360 (ninS (Ne.symm ne1331) (ninS (Ne.symm ne1334) nin0))
      have f1404 := f1318.keep Kq1360 (ninS (Ne.symm ne1331) (ninS (Ne.symm ne1334) nin0))
      have f1405 := f1319.keep Kq1360
      have f1406 := f1320.keep Kq1360 (ninS (Ne.symm ne1338) (ninS (Ne.symm ne1340) nin0))
      have z1411 := Nat.le_trans z1358 Kq1360.1
      have f1412 := f1359.keep Kq1360 (allS ge1264 (allS ge1301 all0)) (nsS f1321.nostat (nsS f1325.nostat ns0))
      show own_Go _ _ _ _ _ (State.setTop _ (mkF _ 133 _ [(.ref b1239)]))
      refine own_astore X1360 hx 135 rfl (hb hby at_133) rfl #[.val (.int i0), .val (.long i1), .second, .val (.long i2), .second, .val (.int i3), .val (.ref a6), .val (.ref nm1), .val (.ref r_1053), .val (.int (1 : Int32)), .val (.ref b1239), .val (.ref b1239), .val (.ref b1239), .unset, .unset, .unset] rfl ?_
      refine own_aload X1360 hx 137 rfl (hb hby at_135) rfl rfl ?_
      refine own_aload X1360 hx 139 rfl (hb hby at_137) rfl rfl ?_
      refine own_acmp X1360 hx true 142 (hb hby at_139) rfl rfl (decide_eq_true rfl) (by decide) (by decide) ?_
      refine own_aload X1360 hx 144 rfl (hb hby at_142) rfl rfl ?_
      refine own_aload X1360 hx 146 rfl (hb hby at_144) rfl rfl ?_
      refine own_acmp X1360 hx true 151 (hb hby at_146) rfl rfl (decide_eq_true rfl) (by decide) (by decide) ?_
      refine own_aload X1360 hx 153 rfl (hb hby at_151) rfl rfl ?_
      refine own_virtual X1360 hx hZ (y := (⟨"com/example/measured_reasoner/measuredreasoner/Summary", "fields", "()Ljava/util/List;"⟩ : MethodName)) (z := (⟨"com/example/measured_reasoner/measuredreasoner/Summary", "fields", "()Ljava/util/List;"⟩ : MethodName)) hown (own_hw hw 139 rfl) (own_hw hw 140 rfl) (own_hw hw 142 rfl) (own_hw hw 141 rfl) rfl (a := b1239) f1394 (by decide) (rm_fs l Z a0 hw [] b1239 li_1252 mA mL mR T1360.heap n0 z1411 f1395 f1366 M1 M2 M3 nAL nAR) (own_hw hw 143 rfl) (own_hw hw 29 rfl) (by decide) rfl (by rw [hml]; rfl) [] 0 (by decide) (Nat.le_of_eq rfl) (by decide) (by decide) (lenOf own_pd29 rfl) rfl rfl 156 rfl (hb hby at_153) fun v1413 T1413 Lc1413 X1413 hQ1413 => ?_
      obtain ⟨u_1413, rfl, Nq1413, Kq1413, sd0_1413, f1414, f1415, f1416⟩ := hQ1413
      have N1417 := Fr.app N1371 Nq1413
      have ne1418 : aE ≠ u_1413 := Nat.ne_of_lt (Nat.lt_of_lt_of_le f1391.lt sd0_1413)
      have ne1419 : nm1 ≠ u_1413 := Nat.ne_of_lt (Nat.lt_of_lt_of_le f1392.lt sd0_1413)
      have ne1420 : r_1053 ≠ u_1413 := Nat.ne_of_lt (Nat.lt_of_lt_of_le f1393.lt sd0_1413)
      have ne1421 : b1239 ≠ u_1413 := Nat.ne_of_lt (Nat.lt_of_lt_of_le f1394.lt sd0_1413)
      have ne1422 : li_1252 ≠ u_1413 := Nat.ne_of_lt (Nat.lt_of_lt_of_le f1366.lt sd0_1413)
      have ne1423 : f_1274 ≠ u_1413 := Nat.ne_of_lt (Nat.lt_of_lt_of_le f1397.lt sd0_1413)
      have ne1424 : r_1274 ≠ u_1413 := Nat.ne_of_lt (Nat.lt_of_lt_of_le f1400.lt sd0_1413)
      have ne1425 : f_1315 ≠ u_1413 := Nat.ne_of_lt (Nat.lt_of_lt_of_le f1402.lt sd0_1413)
      have ne1426 : r_1315 ≠ u_1413 := Nat.ne_of_lt (Nat.lt_of_lt_of_le f1405.lt sd0_1413)
      have ne1427 : f_1360 ≠ u_1413 := Nat.ne_of_lt (Nat.lt_of_lt_of_le f1361.lt sd0_1413)
      have ne1428 : r_1360 ≠ u_1413 := Nat.ne_of_lt (Nat.lt_of_lt_of_le f1364.lt sd0_1413)
      have ne1429 : b_1274 ≠ u_1413 := Nat.ne_of_lt (Nat.lt_of_lt_of_le f1370.lt sd0_1413)
      have ge1430 : n0 ≤ u_1413 := Nat.le_trans z1411 sd0_1413
      have f1431 := own_staKeep f1389 Kq1413 ns0
      have f1432 := own_staKeep f1390 Kq1413 ns0
      have f1433 := f1391.keep Kq1413 nin0
      have f1434 := f1392.keep Kq1413
      have f1435 := f1393.keep Kq1413
      have f1436 := f1394.keep Kq1413
      have f1437 := f1395.keep Kq1413 nin0
      have f1438 := f1366.keep Kq1413
      have f1439 := f1397.keep Kq1413
      have f1440 := f1398.keep Kq1413 nin0
      have f1441 := f1399.keep Kq1413 nin0
      have f1442 := f1400.keep Kq1413
      have f1443 := f1401.keep Kq1413 nin0
      have f1444 := f1402.keep Kq1413
      have f1445 := f1403.keep Kq1413 nin0
      have f1446 := f1404.keep Kq1413 nin0
      have f1447 := f1405.keep Kq1413
      have f1448 := f1406.keep Kq1413 nin0
      have f1449 := f1361.keep Kq1413
      have f1450 := f1362.keep Kq1413 nin0
      have f1451 := f1363.keep Kq1413 nin0
      have f1452 := f1364.keep Kq1413
      have f1453 := f1365.keep Kq1413 nin0
      have f1454 := f1367.keep Kq1413 nin0
      have f1455 := f1368.keep Kq1413 nin0
      have f1456 := f1369.keep Kq1413 nin0
      have f1457 := f1370.keep Kq1413 nin0
      have z1458 := Nat.le_trans z1411 Kq1413.1
      have f1459 := f1412.keep Kq1413 all0 ns0
      show own_Go _ _ _ _ _ (State.setTop _ (mkF _ 156 _ [(.ref u_1413)]))
      refine own_astore X1413 hx 158 rfl (hb hby at_156) rfl #[.val (.int i0), .val (.long i1), .second, .val (.long i2), .second, .val (.int i3), .val (.ref a6), .val (.ref nm1), .val (.ref r_1053), .val (.int (1 : Int32)), .val (.ref b1239), .val (.ref b1239), .val (.ref b1239), .val (.ref u_1413), .unset, .unset] rfl ?_
      refine own_iload X1413 hx 160 rfl (hb hby at_158) rfl ?_
      refine own_ifNo X1413 hx 163 rfl (hb hby at_160) (by decide) ?_
      refine own_iconst X1413 hx 164 rfl (hb hby at_163) (1 : Int32) rfl ?_
      refine own_goto X1413 hx 168 (hb hby at_164) (by decide) rfl ?_
      refine own_istore X1413 hx 170 rfl (hb hby at_168) #[.val (.int i0), .val (.long i1), .second, .val (.long i2), .second, .val (.int i3), .val (.ref a6), .val (.ref nm1), .val (.ref r_1053), .val (.int (1 : Int32)), .val (.ref b1239), .val (.ref b1239), .val (.ref b1239), .val (.ref u_1413), .val (.int (1 : Int32)), .unset] rfl ?_
      refine own_aload X1413 hx 172 rfl (hb hby at_170) rfl rfl ?_
      refine own_iface X1413 hx hZ (C := "java/util/Collections$UnmodifiableRandomAccessList") (xi := (⟨"java/util/List", "size", "()I"⟩ : MethodName)) (y := (⟨"java/util/Collections$UnmodifiableCollection", "size", "()I"⟩ : MethodName)) hown (own_hw hw 186 rfl) (own_hw hw 187 rfl) (own_hw hw 188 rfl) rfl (own_hw hw 189 rfl) (own_hw hw 190 rfl) (own_hw hw 191 rfl) (own_hw hw 192 rfl) (own_hw hw 193 rfl) (a := u_1413) f1414 (by decide) (rm_usize l Z a0 hw [] u_1413 li_1252 (3 : Int32) T1413.heap n0 z1458 f1415 f1438 f1456) (own_hw hw 194 rfl) (own_hw hw 179 rfl) (by decide) rfl (by rw [hml]; rfl) [] 0 (by decide) (Nat.le_of_eq rfl) (by decide) (by decide) (lenOf own_pd10 rfl) rfl rfl 177 rfl (hb hby at_172) fun v1460 T1460 Lc1460 X1460 hQ1460 => ?_
      obtain ⟨rfl, Nq1460, e1460⟩ := hQ1460
      have N1461 := Fr.app N1417 Nq1460
      show own_Go _ _ _ _ _ (State.setTop _ (mkF _ 177 _ [(.int (3 : Int32))]))
      refine own_iload X1460 hx 179 rfl (hb hby at_177) rfl ?_
      refine own_iconst X1460 hx 180 rfl (hb hby at_179) (2 : Int32) rfl ?_
      refine own_iadd X1460 hx 181 rfl (hb hby at_180) (3 : Int32) rfl ?_
      refine own_icmpYes X1460 hx 186 (hb hby at_181) (by decide) (by decide) rfl ?_
      refine own_iload X1460 hx 188 rfl (hb hby at_186) rfl ?_
      refine own_ifNo X1460 hx 191 rfl (hb hby at_188) (by decide) ?_
      refine own_aload X1460 hx 193 rfl (hb hby at_191) rfl rfl ?_
      refine own_iconst X1460 hx 194 rfl (hb hby at_193) (0 : Int32) rfl ?_
      refine own_iface X1460 hx hZ (C := "java/util/Collections$UnmodifiableRandomAccessList") (xi := (⟨"java/util/List", "get", "(I)Ljava/lang/Object;"⟩ : MethodName)) (y := (⟨"java/util/Collections$UnmodifiableList", "get", "(I)Ljava/lang/Object;"⟩ : MethodName)) hown (own_hw hw 204 rfl) (own_hw hw 205 rfl) (own_hw hw 206 rfl) rfl (own_hw hw 207 rfl) (own_hw hw 208 rfl) (own_hw hw 209 rfl) (own_hw hw 210 rfl) (own_hw hw 193 rfl) (a := u_1413) f1414 (by decide) (rm_uget l Z a0 hw [] u_1413 (0 : Int32) li_1252 (3 : Int32) b_1274 kb_1274 [(.ref f_1274), (.ref f_1315), (.ref f_1360), .null, .null, .null, .null, .null, .null, .null] f_1274 T1413.heap n0 z1458 f1416 f1438 f1455 f1456 f1457 (by decide) (by decide) ⟨by decide, by decide⟩ rfl) (own_hw hw 211 rfl) (own_hw hw 173 rfl) (by decide) e1460 (by rw [hml]; rfl) [(.int (0 : Int32))] 0 (by decide) (Nat.le_of_eq rfl) (by decide) (by decide) (lenOf own_pd12 rfl) rfl rfl 199 rfl (hb hby at_194) fun v1462 T1462 Lc1462 X1462 hQ1462 => ?_
      obtain ⟨rfl, Nq1462, e1462⟩ := hQ1462
      have N1463 := Fr.app N1461 Nq1462
      show own_Go _ _ _ _ _ (State.setTop _ (mkF _ 199 _ [(.ref f_1274)]))
      obtain ⟨T1464, X1464, e1464, st1464⟩ := castY X1462 hx hZ hown (own_hw hw 231 rfl) e1462 (Ins.self f1439) (g := (mkF m 199 #[.val (.int i0), .val (.long i1), .second, .val (.long i2), .second, .val (.int i3), .val (.ref a6), .val (.ref nm1), .val (.ref r_1053), .val (.int (1 : Int32)), .val (.ref b1239), .val (.ref b1239), .val (.ref b1239), .val (.ref u_1413), .val (.int (1 : Int32)), .unset] [(.ref f_1274)])) rfl rfl (hb hby at_199)
      refine own_st st1464 ?_
      show own_Go _ _ _ _ _ (State.setTop _ (mkF _ 202 #[.val (.int i0), .val (.long i1), .second, .val (.long i2), .second, .val (.int i3), .val (.ref a6), .val (.ref nm1), .val (.ref r_1053), .val (.int (1 : Int32)), .val (.ref b1239), .val (.ref b1239), .val (.ref b1239), .val (.ref u_1413), .val (.int (1 : Int32)), .unset] [(.ref f_1274)]))
      refine own_astore X1464 hx 204 rfl (hb hby at_202) rfl #[.val (.int i0), .val (.long i1), .second, .val (.long i2), .second, .val (.int i3), .val (.ref a6), .val (.ref nm1), .val (.ref r_1053), .val (.int (1 : Int32)), .val (.ref b1239), .val (.ref b1239), .val (.ref b1239), .val (.ref u_1413), .val (.int (1 : Int32)), .val (.ref f_1274)] rfl ?_
      refine own_aload X1464 hx 206 rfl (hb hby at_204) rfl rfl ?_
      refine own_virtual X1464 hx hZ (y := (⟨"com/example/measured_reasoner/measuredreasoner/Summary$Field", "value", "()Ljava/lang/Number;"⟩ : MethodName)) (z := (⟨"com/example/measured_reasoner/measuredreasoner/Summary$Field", "value", "()Ljava/lang/Number;"⟩ : MethodName)) hown (own_hw hw 237 rfl) (own_hw hw 238 rfl) (own_hw hw 240 rfl) (own_hw hw 239 rfl) rfl (a := f_1274) f1439 (by decide) (rm_fval l Z a0 hw [] f_1274 r_1274 T1413.heap n0 z1458 f1441) (own_hw hw 241 rfl) (own_hw hw 67 rfl) (by decide) e1464 (by rw [hml]; rfl) [] 0 (by decide) (Nat.le_of_eq rfl) (by decide) (by decide) (lenOf own_pd24 rfl) rfl rfl 209 rfl (hb hby at_206) fun v1465 T1465 Lc1465 X1465 hQ1465 => ?_
      obtain ⟨rfl, Nq1465, e1465⟩ := hQ1465
      have N1466 := Fr.app N1463 Nq1465
      show own_Go _ _ _ _ _ (State.setTop _ (mkF _ 209 _ [(.ref r_1274)]))
      obtain ⟨T1467, X1467, e1467, st1467⟩ := instY X1465 hx hZ hown (own_hw hw 294 rfl) e1465 (Ins.self f1442) (g := (mkF m 209 #[.val (.int i0), .val (.long i1), .second, .val (.long i2), .second, .val (.int i3), .val (.ref a6), .val (.ref nm1), .val (.ref r_1053), .val (.int (1 : Int32)), .val (.ref b1239), .val (.ref b1239), .val (.ref b1239), .val (.ref u_1413), .val (.int (1 : Int32)), .val (.ref f_1274)] [(.ref r_1274)])) rfl rfl (hb hby at_209)
      refine own_st st1467 ?_
      show own_Go _ _ _ _ _ (State.setTop _ (mkF _ 212 #[.val (.int i0), .val (.long i1), .second, .val (.long i2), .second, .val (.int i3), .val (.ref a6), .val (.ref nm1), .val (.ref r_1053), .val (.int (1 : Int32)), .val (.ref b1239), .val (.ref b1239), .val (.ref b1239), .val (.ref u_1413), .val (.int (1 : Int32)), .val (.ref f_1274)] [(.int (1 : Int32))]))
      refine own_ifNo X1467 hx 215 rfl (hb hby at_212) (by decide) ?_
      refine own_aload X1467 hx 217 rfl (hb hby at_215) rfl rfl ?_
      refine own_virtual X1467 hx hZ (y := (⟨"com/example/measured_reasoner/measuredreasoner/Summary$Field", "name", "()Ljava/lang/String;"⟩ : MethodName)) (z := (⟨"com/example/measured_reasoner/measuredreasoner/Summary$Field", "name", "()Ljava/lang/String;"⟩ : MethodName)) hown (own_hw hw 243 rfl) (own_hw hw 244 rfl) (own_hw hw 246 rfl) (own_hw hw 245 rfl) rfl (a := f_1274) f1439 (by decide) (rm_fname l Z a0 hw [] f_1274 r_1053 T1413.heap n0 z1458 f1440) (own_hw hw 247 rfl) (own_hw hw 67 rfl) (by decide) e1467 (by rw [hml]; rfl) [] 0 (by decide) (Nat.le_of_eq rfl) (by decide) (by decide) (lenOf own_pd25 rfl) rfl rfl 220 rfl (hb hby at_217) fun v1468 T1468 Lc1468 X1468 hQ1468 => ?_
      obtain ⟨rfl, Nq1468, e1468⟩ := hQ1468
      have N1469 := Fr.app N1466 Nq1468
      show own_Go _ _ _ _ _ (State.setTop _ (mkF _ 220 _ [(.ref r_1053)]))
      refine own_aload X1468 hx 222 rfl (hb hby at_220) rfl rfl ?_
      refine own_virtual X1468 hx hZ (y := (⟨"java/lang/String", "equals", "(Ljava/lang/Object;)Z"⟩ : MethodName)) (z := (⟨"java/lang/String", "equals", "(Ljava/lang/Object;)Z"⟩ : MethodName)) hown (own_hw hw 248 rfl) (own_hw hw 249 rfl) (own_hw hw 251 rfl) (own_hw hw 250 rfl) rfl (a := r_1053) f1435 (by decide) (rm_eq l Z a0 hw [] r_1053 T1413.heap n0 z1458 ) (own_hw hw 252 rfl) (own_hw hw 3 rfl) (by decide) e1468 (by rw [hml]; rfl) [(.ref r_1053)] 0 (by decide) (Nat.le_of_eq rfl) (by decide) (by decide) (lenOf own_pd22 rfl) rfl rfl 225 rfl (hb hby at_222) fun v1470 T1470 Lc1470 X1470 hQ1470 => ?_
      obtain ⟨rfl, Nq1470, e1470⟩ := hQ1470
      have N1471 := Fr.app N1469 Nq1470
      show own_Go _ _ _ _ _ (State.setTop _ (mkF _ 225 _ [(.int (1 : Int32))]))
      refine own_ifYes X1470 hx 230 (hb hby at_225) (by decide) (by decide) rfl ?_
      refine own_aload X1470 hx 232 rfl (hb hby at_230) rfl rfl ?_
      refine own_iload X1470 hx 234 rfl (hb hby at_232) rfl ?_
      refine own_iface X1470 hx hZ (C := "java/util/Collections$UnmodifiableRandomAccessList") (xi := (⟨"java/util/List", "get", "(I)Ljava/lang/Object;"⟩ : MethodName)) (y := (⟨"java/util/Collections$UnmodifiableList", "get", "(I)Ljava/lang/Object;"⟩ : MethodName)) hown (own_hw hw 204 rfl) (own_hw hw 205 rfl) (own_hw hw 206 rfl) rfl (own_hw hw 207 rfl) (own_hw hw 208 rfl) (own_hw hw 209 rfl) (own_hw hw 210 rfl) (own_hw hw 193 rfl) (a := u_1413) f1414 (by decide) (rm_uget l Z a0 hw [] u_1413 (1 : Int32) li_1252 (3 : Int32) b_1274 kb_1274 [(.ref f_1274), (.ref f_1315), (.ref f_1360), .null, .null, .null, .null, .null, .null, .null] f_1315 T1413.heap n0 z1458 f1416 f1438 f1455 f1456 f1457 (by decide) (by decide) ⟨by decide, by decide⟩ rfl) (own_hw hw 211 rfl) (own_hw hw 173 rfl) (by decide) e1470 (by rw [hml]; rfl) [(.int (1 : Int32))] 0 (by decide) (Nat.le_of_eq rfl) (by decide) (by decide) (lenOf own_pd12 rfl) rfl rfl 239 rfl (hb hby at_234) fun v1472 T1472 Lc1472 X1472 hQ1472 => ?_
      obtain ⟨rfl, Nq1472, e1472⟩ := hQ1472
      have N1473 := Fr.app N1471 Nq1472
      show own_Go _ _ _ _ _ (State.setTop _ (mkF _ 239 _ [(.ref f_1315)]))
      obtain ⟨T1474, X1474, e1474, st1474⟩ := castY X1472 hx hZ hown (own_hw hw 231 rfl) e1472 (Ins.self f1444) (g := (mkF m 239 #[.val (.int i0), .val (.long i1), .second, .val (.long i2), .second, .val (.int i3), .val (.ref a6), .val (.ref nm1), .val (.ref r_1053), .val (.int (1 : Int32)), .val (.ref b1239), .val (.ref b1239), .val (.ref b1239), .val (.ref u_1413), .val (.int (1 : Int32)), .val (.ref f_1274)] [(.ref f_1315)])) rfl rfl (hb hby at_239)
      refine own_st st1474 ?_
      show own_Go _ _ _ _ _ (State.setTop _ (mkF _ 242 #[.val (.int i0), .val (.long i1), .second, .val (.long i2), .second, .val (.int i3), .val (.ref a6), .val (.ref nm1), .val (.ref r_1053), .val (.int (1 : Int32)), .val (.ref b1239), .val (.ref b1239), .val (.ref b1239), .val (.ref u_1413), .val (.int (1 : Int32)), .val (.ref f_1274)] [(.ref f_1315)]))
      refine own_aload X1474 hx 244 rfl (hb hby at_242) rfl rfl ?_
      refine own_lloadN X1474 hx 245 rfl (hb hby at_244) rfl ?_
      refine own_callS X1474 hx hZ (y := (⟨"com/example/measured_reasoner/measuredreasoner/SummaryCountPinLaw", "isCount", "(Lcom/example/measured_reasoner/measuredreasoner/Summary$Field;Ljava/lang/String;J)Z"⟩ : MethodName)) hown (own_hw hw 233 rfl) (own_hw hw 234 rfl) (by decide) (rm_is l Z a0 hw [] f_1315 nm1 i1 r_1315 T1413.heap n0 z1458 f1444 f1445 f1446 f1447 f1448 f1434) (own_hw hw 236 rfl) (own_hw hw 235 rfl) (by decide) e1474 (by rw [hml]; rfl) [(.ref f_1315), (.ref nm1), (.long i1)] 0 (by decide) (Nat.le_of_eq rfl) (by decide) (by decide) (lenOf own_pd30 rfl) rfl rfl 248 rfl (hb hby at_245) fun v1475 T1475 Lc1475 X1475 hQ1475 => ?_
      obtain ⟨rfl, Nq1475, e1475⟩ := hQ1475
      have N1476 := Fr.app N1473 Nq1475
      show own_Go _ _ _ _ _ (State.setTop _ (mkF _ 248 _ [(.int (1 : Int32))]))
      refine own_ifNo X1475 hx 251 rfl (hb hby at_248) (by decide) ?_
      refine own_aload X1475 hx 253 rfl (hb hby at_251) rfl rfl ?_
      refine own_iload X1475 hx 255 rfl (hb hby at_253) rfl ?_
      refine own_iconst X1475 hx 256 rfl (hb hby at_255) (1 : Int32) rfl ?_
      refine own_iadd X1475 hx 257 rfl (hb hby at_256) (2 : Int32) rfl ?_
      refine own_iface X1475 hx hZ (C := "java/util/Collections$UnmodifiableRandomAccessList") (xi := (⟨"java/util/List", "get", "(I)Ljava/lang/Object;"⟩ : MethodName)) (y := (⟨"java/util/Collections$UnmodifiableList", "get", "(I)Ljava/lang/Object;"⟩ : MethodName)) hown (own_hw hw 204 rfl) (own_hw hw 205 rfl) (own_hw hw 206 rfl) rfl (own_hw hw 207 rfl) (own_hw hw 208 rfl) (own_hw hw 209 rfl) (own_hw hw 210 rfl) (own_hw hw 193 rfl) (a := u_1413) f1414 (by decide) (rm_uget l Z a0 hw [] u_1413 (2 : Int32) li_1252 (3 : Int32) b_1274 kb_1274 [(.ref f_1274), (.ref f_1315), (.ref f_1360), .null, .null, .null, .null, .null, .null, .null] f_1360 T1413.heap n0 z1458 f1416 f1438 f1455 f1456 f1457 (by decide) (by decide) ⟨by decide, by decide⟩ rfl) (own_hw hw 211 rfl) (own_hw hw 173 rfl) (by decide) e1475 (by rw [hml]; rfl) [(.int (2 : Int32))] 0 (by decide) (Nat.le_of_eq rfl) (by decide) (by decide) (lenOf own_pd12 rfl) rfl rfl 262 rfl (hb hby at_257) fun v1477 T1477 Lc1477 X1477 hQ1477 => ?_
      obtain ⟨rfl, Nq1477, e1477⟩ := hQ1477
      have N1478 := Fr.app N1476 Nq1477
      show own_Go _ _ _ _ _ (State.setTop _ (mkF _ 262 _ [(.ref f_1360)]))
      obtain ⟨T1479, X1479, e1479, st1479⟩ := castY X1477 hx hZ hown (own_hw hw 231 rfl) e1477 (Ins.self f1449) (g := (mkF m 262 #[.val (.int i0), .val (.long i1), .second, .val (.long i2), .second, .val (.int i3), .val (.ref a6), .val (.ref nm1), .val (.ref r_1053), .val (.int (1 : Int32)), .val (.ref b1239), .val (.ref b1239), .val (.ref b1239), .val (.ref u_1413), .val (.int (1 : Int32)), .val (.ref f_1274)] [(.ref f_1360)])) rfl rfl (hb hby at_262)
      refine own_st st1479 ?_
      show own_Go _ _ _ _ _ (State.setTop _ (mkF _ 265 #[.val (.int i0), .val (.long i1), .second, .val (.long i2), .second, .val (.int i3), .val (.ref a6), .val (.ref nm1), .val (.ref r_1053), .val (.int (1 : Int32)), .val (.ref b1239), .val (.ref b1239), .val (.ref b1239), .val (.ref u_1413), .val (.int (1 : Int32)), .val (.ref f_1274)] [(.ref f_1360)]))
      refine own_aload X1479 hx 267 rfl (hb hby at_265) rfl rfl ?_
      refine own_lloadN X1479 hx 268 rfl (hb hby at_267) rfl ?_
      refine own_callS X1479 hx hZ (y := (⟨"com/example/measured_reasoner/measuredreasoner/SummaryCountPinLaw", "isCount", "(Lcom/example/measured_reasoner/measuredreasoner/Summary$Field;Ljava/lang/String;J)Z"⟩ : MethodName)) hown (own_hw hw 233 rfl) (own_hw hw 234 rfl) (by decide) (rm_is l Z a0 hw [] f_1360 r_1053 i2 r_1360 T1413.heap n0 z1458 f1449 f1450 f1451 f1452 f1453 f1435) (own_hw hw 236 rfl) (own_hw hw 235 rfl) (by decide) e1479 (by rw [hml]; rfl) [(.ref f_1360), (.ref r_1053), (.long i2)] 0 (by decide) (Nat.le_of_eq rfl) (by decide) (by decide) (lenOf own_pd30 rfl) rfl rfl 271 rfl (hb hby at_268) fun v1480 T1480 Lc1480 X1480 hQ1480 => ?_
      obtain ⟨rfl, Nq1480, e1480⟩ := hQ1480
      have N1481 := Fr.app N1478 Nq1480
      show own_Go _ _ _ _ _ (State.setTop _ (mkF _ 271 _ [(.int (1 : Int32))]))
      refine own_ifNo X1480 hx 274 rfl (hb hby at_271) (by decide) ?_
      refine own_iconst X1480 hx 275 rfl (hb hby at_274) (1 : Int32) rfl ?_
      refine own_goto X1480 hx 279 (hb hby at_275) (by decide) rfl ?_
      refine own_ret X1480 (some (.int (1 : Int32))) (fun h => by rw [Bd.returns] at h; cases h) Bd.notSynchronized (by decide) (by decide) ?_ (fun fs hr => retN X1480 hx (t := .boolean) Bd.returns (by simp) (hb hby at_279) hr)
      show Q_rm0 Z i0 i1 i2 i3 cs aE kE mA mL mR h0 n0 _ T1480.heap _
      rw [e1480]
      exact ⟨rfl, N1481⟩
  refine own_iload X1044 hx 30 rfl (hb hby at_28) rfl ?_
  refine own_iconst X1044 hx 31 rfl (hb hby at_30) (2 : Int32) rfl ?_
  refine own_iand X1044 hx 32 rfl (hb hby at_31) _ rfl ?_
  by_cases hc1482 : (i3 &&& (2 : Int32)) = (0 : Int32)
  ·
    refine own_ifYes X1044 hx 47 (hb hby at_32) ((if0 _ _).trans (teq hc1482).1) (by decide) rfl ?_
    refine own_aload X1044 hx 49 rfl (hb hby at_47) rfl rfl ?_
    refine own_iconst X1044 hx 50 rfl (hb hby at_49) (0 : Int32) rfl ?_
    refine own_ldC X1044 hx hZ e1044 f1045 ⟨by decide, by decide⟩ (nar .char ((i0 &&& (255 : Int32)).toUInt32.toUInt16.toUInt32.toInt32)) rfl 51 rfl (hb hby at_50) ?_
    refine own_callS X1044 hx hZ (y := (⟨"java/lang/String", "valueOf", "(C)Ljava/lang/String;"⟩ : MethodName)) hown (own_hw hw 1 rfl) (own_hw hw 2 rfl) (by decide) (rm_valueof l Z a0 hw [] (nar .char ((i0 &&& (255 : Int32)).toUInt32.toUInt16.toUInt32.toInt32)) cs h1044 n0 z1050 f1046 hcs (own_ch (own_m255 _).1 (own_m255 _).2)) (own_hw hw 4 rfl) (own_hw hw 3 rfl) (by decide) e1044 (by rw [hml]; rfl) [(.int (nar .char ((i0 &&& (255 : Int32)).toUInt32.toUInt16.toUInt32.toInt32)))] 0 (by decide) (Nat.le_of_eq rfl) (by decide) (by decide) (lenOf own_pd27 rfl) rfl rfl 54 rfl (hb hby at_51) fun v1483 T1483 Lc1483 X1483 hQ1483 => ?_
    obtain ⟨r_1483, rfl, Nq1483, Kq1483, sd0_1483, f1484⟩ := hQ1483
    have N1485 := Fr.app N1052 Nq1483
    have ne1486 : aE ≠ r_1483 := Nat.ne_of_lt (Nat.lt_of_lt_of_le f1048.lt sd0_1483)
    have ne1487 : b1026 ≠ r_1483 := Nat.ne_of_lt (Nat.lt_of_lt_of_le f1049.lt sd0_1483)
    have ge1488 : n0 ≤ r_1483 := Nat.le_trans z1050 sd0_1483
    have f1489 := own_staKeep f1046 Kq1483 ns0
    have f1490 := own_staKeep f1047 Kq1483 ns0
    have f1491 := f1048.keep Kq1483 nin0
    have f1492 := f1049.keep Kq1483
    have f1493 := f1045.keep Kq1483 nin0
    have z1494 := Nat.le_trans z1050 Kq1483.1
    have f1495 := f1051.keep Kq1483 all0 ns0
    show own_Go _ _ _ _ _ (State.setTop _ (mkF _ 54 _ [(.ref r_1483)]))
    exact J54 T1483 _ T1483.heap (X1483.more (by decide) (by decide)) rfl N1485 z1494 r_1483 b1026 f1489 f1490 f1491 f1495 f1484
  ·
    refine own_ifNo X1044 hx 35 rfl (hb hby at_32) ((if0 _ _).trans (feq hc1482).1) ?_
    refine own_new X1044 hx hZ hown (own_hw hw 258 rfl) (own_hw hw 11 rfl) (own_hw hw 3 rfl) e1044 38 rfl (hb hby at_35) (by decide) (by decide) fun T1496 h1496 b1496 g1496 X1496 e1496 E1496 A1496 D1496 => ?_
    have ne1497 : aE ≠ b1496 := Nat.ne_of_lt (Nat.lt_of_lt_of_le f1048.lt (Nat.le_of_eq g1496.symm))
    have ne1498 : b1026 ≠ b1496 := Nat.ne_of_lt (Nat.lt_of_lt_of_le f1049.lt (Nat.le_of_eq g1496.symm))
    have ge1499 : n0 ≤ b1496 := Nat.le_trans z1050 (Nat.le_of_eq g1496.symm)
    have f1500 := f1046.ext E1496
    have f1501 := f1047.ext E1496
    have f1502 := f1048.ext E1496
    have f1503 := f1049.ext E1496
    have f1504 := f1051.ext E1496
    have f1505 := f1045.ext E1496
    have z1506 := Nat.le_trans z1050 E1496.1
    have f1507 : Fld Z h1496 b1496 "java/lang/String" "value" "[B" .null := D1496 (Or.inr (own_hw hw 24 rfl)) (ty := (.array .byte)) (by decide)
    have f1508 : Fld Z h1496 b1496 "java/lang/String" "coder" "B" (.int (0 : Int32)) := D1496 (Or.inr (own_hw hw 26 rfl)) (ty := .byte) (by decide)
    refine own_dup X1496 hx 39 rfl (hb hby at_38) rfl ?_
    refine own_aload X1496 hx 41 rfl (hb hby at_39) rfl rfl ?_
    refine own_special X1496 hx hZ (y := (⟨"java/lang/String", "<init>", "([C)V"⟩ : MethodName)) hown rfl (own_hw hw 259 rfl) (own_hw hw 260 rfl) (a := b1496) (by decide) rfl (rm_str1 l Z a0 hw [] b1496 b1026 k1026 (nar .char ((i0 &&& (255 : Int32)).toUInt32.toUInt16.toUInt32.toInt32)) (nar .char ((((i0.toUInt32 >>> ((8 : Int32) &&& 31).toUInt32).toInt32) &&& (255 : Int32)).toUInt32.toUInt16.toUInt32.toInt32)) cs h1496 n0 z1506 A1496 f1507 f1508 ge1499 f1505 (own_ch (own_m255 _).1 (own_m255 _).2) (own_ch (own_m255 _).1 (own_m255 _).2) (Ne.symm ne1498) f1500 hcs) (own_hw hw 261 rfl) (own_hw hw 3 rfl) (by decide) e1496 (by rw [hml]; rfl) [(.ref b1026)] 1 (by decide) (Nat.le_of_eq rfl) (by decide) (by decide) (lenOf own_pd32 rfl) rfl rfl 44 rfl (hb hby at_41) fun v1509 T1509 Lc1509 X1509 hQ1509 => ?_
    obtain ⟨rfl, Nq1509, Kq1509, f1510⟩ := hQ1509
    have N1511 := Fr.app N1052 Nq1509
    have f1512 := own_staKeep f1500 Kq1509 (nsS A1496.nostat ns0)
    have f1513 := own_staKeep f1501 Kq1509 (nsS A1496.nostat ns0)
    have f1514 := f1502.keep Kq1509 (ninS ne1497 nin0)
    have f1515 := f1503.keep Kq1509
    have f1516 := f1505.keep Kq1509 (ninS ne1498 nin0)
    have f1517 := A1496.keep Kq1509
    have z1520 := Nat.le_trans z1506 Kq1509.1
    have f1521 := f1504.keep Kq1509 (allS ge1499 all0) (nsS A1496.nostat ns0)
    show own_Go _ _ _ _ _ (State.setTop _ (mkF _ 44 _ [(.ref b1496)]))
    refine own_goto X1509 hx 54 (hb hby at_44) (by decide) rfl ?_
    exact J54 T1509 _ T1509.heap (X1509.more (by decide) (by decide)) rfl N1511 z1520 b1496 b1026 f1512 f1513 f1514 f1521 f1510
theorem own_ne0 {args : Array Value} {s : State} {t : Jvm.Term} {z : Int32} (h1 : t.eval args s none [] s = some (.int z)) (h2 : (Jvm.Cond.eq t (.int 0)).value args s none s [] = some (!true)) : ¬ z = 0 :=
  gotF (by simp [Cond.value, h1, Term.eval]) h2
theorem own_arrayAt {Z : State} {a : Addr} {cl : Cell} {ty : FieldType} (A : Arr Z Z.heap a cl ty) : Z.arrayAt? a = some cl := by
  obtain ⟨h1, h2, h3⟩ := A
  obtain ⟨p1, kk, p2, comp, p3⟩ := h2
  have h4 : cl.vm.isStatics = false := by
    cases hv : cl.vm with
    | statics k => exact absurd hv (p1 k)
    | _ => rfl
  simp [State.arrayAt?, h1, p2, p3, h3, h4]
theorem own_alen {Z : State} {args : Array Value} {t : Jvm.Term} {a : Addr} {cl : Cell} {z : Int32} (ht : t.eval args Z none [] Z = some (.ref a)) (ha : Z.arrayAt? a = some cl) (w : (Jvm.Cond.eq (Jvm.Term.length t) (Jvm.Term.int z)).value args Z none Z [] = some true) : cl.slots.size < 2 ^ 31 ∧ cl.slots.size.toInt32 = z := by
  by_cases hs : cl.slots.size < 2 ^ 31
  · exact ⟨hs, by simpa [Cond.value, Term.eval, ht, ha, hs] using w⟩
  · simp [Cond.value, Term.eval, ht, ha, hs] at w
section OwnStart
variable {Z : State} {args : Array Value} {C n d ad : String} {ty : FieldType} {z : Int32}
theorem own_start0 (hf : Fit Z) (w1 : (Jvm.Cond.exactly (Jvm.Term.static C n d) ad).before args Z = true) (w2 : (Jvm.Cond.arrayOf (Jvm.Term.static C n d) ty).before args Z = true) (w3 : (Jvm.Cond.eq (Jvm.Term.length (Jvm.Term.static C n d)) (Jvm.Term.int z)).before args Z = true) (hz : ¬ z < 0) (hi : (Jvm.Cond.initializedFor C n d).before args Z = true ∨ ((Jvm.Cond.initialized C).before args Z = true ∧ (Jvm.Cond.laysStatic C n d).before args Z = true)) :
    ∃ (a : Addr) (cl : Cell), Sta Z Z.heap C n d (.ref a) ∧ Arr Z Z.heap a cl ty ∧ cl.slots.size = z.toNatClampNeg ∧ Arv Z Z.heap a cl.cls ty z cl.slots.toList .null ∧ (Jvm.Term.static C n d).eval args Z none [] Z = some (.ref a) := by
  obtain ⟨a, ev⟩ := exa_v (Cond.before_iff.mp w1)
  obtain ⟨cl, A⟩ := Arr.start ev (Cond.before_iff.mp w2)
  obtain ⟨e3, ez⟩ := own_alen ev (own_arrayAt A) (Cond.before_iff.mp w3)
  have S : cl.slots.size = z.toNatClampNeg := by rw [← ez]; simp only [Int32.toNatClampNeg, len_toInt e3]; rfl
  have H' : Has cl cl.slots.toList .null := fun j hj => by simp [List.getD_eq_getElem?_getD, hj]
  refine ⟨a, cl, Sta.start ev hi, A, S, ⟨cl, A, rfl, S, hz, H', fun j hj => ?_⟩, ev⟩
  have e1 : (Nat.toInt32 j).toNatClampNeg = j := by simp only [Int32.toNatClampNeg, len_toInt (Nat.lt_trans hj e3)]; rfl
  exact elem_fits (j := Nat.toInt32 j) hf A (idx_in hj e3) (by rw [e1]; exact H' j hj)
theorem own_empty {a : Addr} {k : ClassId} {vs : List Value} {dv : Value} (F : Arv Z Z.heap a k ty z vs dv) (h : vs = []) : Arv Z Z.heap a k ty z [] dv := h ▸ F
end OwnStart
theorem own_startC {Z : State} {args : Array Value} (hf : Fit Z) (w1 : (Jvm.Cond.exactly (Jvm.Term.static "java/lang/Long$LongCache" "cache" "[Ljava/lang/Long;") "[Ljava/lang/Long;").before args Z = true) (w2 : (Jvm.Cond.arrayOf (Jvm.Term.static "java/lang/Long$LongCache" "cache" "[Ljava/lang/Long;") (.object "java/lang/Long")).before args Z = true) (w3 : (Jvm.Cond.eq (Jvm.Term.length (Jvm.Term.static "java/lang/Long$LongCache" "cache" "[Ljava/lang/Long;")) (Jvm.Term.int (256 : Int32))).before args Z = true)
    (w4 : (Jvm.Cond.all (Jvm.Term.static "java/lang/Long$LongCache" "cache" "[Ljava/lang/Long;") (Jvm.Cond.and (Jvm.Cond.exactly (Jvm.Term.elem (Jvm.Term.static "java/lang/Long$LongCache" "cache" "[Ljava/lang/Long;") (Jvm.Term.index 0)) "java/lang/Long") (Jvm.Cond.eq (Jvm.Term.field (Jvm.Term.elem (Jvm.Term.static "java/lang/Long$LongCache" "cache" "[Ljava/lang/Long;") (Jvm.Term.index 0)) "java/lang/Long" "value" "J") (Jvm.Term.op1 Jvm.Unary.i2l (Jvm.Term.sub (Jvm.Term.index 0) (Jvm.Term.int (128 : Int32))))))).before args Z = true)
    (hi : (Jvm.Cond.initializedFor "java/lang/Long$LongCache" "cache" "[Ljava/lang/Long;").before args Z = true ∨ ((Jvm.Cond.initialized "java/lang/Long$LongCache").before args Z = true ∧ (Jvm.Cond.laysStatic "java/lang/Long$LongCache" "cache" "[Ljava/lang/Long;").before args Z = true)) : own_Ca Z Z.heap Z.heap.size := by
  obtain ⟨aC, cl, sC, AC, zC, fC, ev⟩ := own_start0 hf w1 w2 w3 (by decide) hi
  have hz : cl.slots.size = 256 := zC.trans (by decide)
  refine ⟨aC, cl.cls, cl.slots.toList, sC, fC, AC.lt, fun i hi => ?_⟩
  have hat : Z.arrayAt? aC = some cl := own_arrayAt AC
  have hb := Cond.all_elim ev hat (Cond.before_iff.mp w4) i (by omega)
  obtain ⟨g1, g2⟩ := and_e hb
  obtain ⟨y, c', cell, k, e1, e2, e3, e4, e5, rfl, e7⟩ := Cond.exactly_spec (beq_iff_eq.mpr g1)
  obtain ⟨a2, j, cell2, q1, q2, q3, q4, q5⟩ := Term.elem_spec e1
  have evI : (Jvm.Term.static "java/lang/Long$LongCache" "cache" "[Ljava/lang/Long;").eval args Z none [i] Z = some (.ref aC) := ev
  cases evI.symm.trans q1
  cases hat.symm.trans q3
  have ej : j = Nat.toInt32 i := by
    have : (Jvm.Term.index 0).eval args Z none [i] Z = some (.int (Nat.toInt32 i)) := by simp [Term.eval]
    cases this.symm.trans q2
    rfl
  subst ej
  have ei : (Nat.toInt32 i).toNatClampNeg = i := by simp only [Int32.toNatClampNeg, len_toInt (show i < 2 ^ 31 by omega)]; rfl
  rw [ei] at q5
  have hF : Z.fieldOf? y "java/lang/Long" "value" "J" = some (.long (Int64.ofInt ((i : Int) - 128))) := by
    have h1 := fld_at (C := "java/lang/Long") (n := "value") (dd := "J") e1
    cases hv : Z.fieldOf? y "java/lang/Long" "value" "J" with
    | none => rw [hv] at h1; simp [Cond.value, h1] at g2
    | some v =>
      rw [hv] at h1
      have h2 : (Jvm.Term.op1 Jvm.Unary.i2l (Jvm.Term.sub (Jvm.Term.index 0) (Jvm.Term.int (128 : Int32)))).eval args Z none [i] Z = some (.long (Nat.toInt32 i - 128).toInt64) := by simp [Term.eval, Unary.apply]
      have h3 : v = .long (Nat.toInt32 i - 128).toInt64 := by
        cases v <;> simp [Cond.value, h1, h2] at g2 ⊢
        exact g2
      rw [h3]
      congr 2
      refine Int64.toInt_inj.mp ?_
      rw [Int64.toInt_ofInt_of_le (by omega) (by omega), c_i2l]
      have k1 := c_isub (Nat.toInt32 i) 128
      have k2 := rng32 (Nat.toInt32 i - 128)
      have k3 : (Nat.toInt32 i).toInt = i := len_toInt (show i < 2 ^ 31 by omega)
      have k4 : ((128 : Int32)).toInt = 128 := by decide
      omega
  have E : Exa Z Z.heap y "java/lang/Long" := ⟨cell, k, e3, e2, e4, e5, e7⟩
  exact ⟨y, E.lt, by simp [List.getD_eq_getElem?_getD, q5], E, Fld.start hF⟩

set_option maxRecDepth 65536 in
set_option maxHeartbeats 40000000 in
theorem comes_1 {Post : Tables → Env → Array Value → State → Outcome → State → Prop} (hpost : ∀ tb e args s v u, (limb_1_1.after args s (.returned v) u = true ∧ limb_1_2.after args s (.returned v) u = true ∧ True) → FrameEnd s (.returned v) u (Jvm.fieldLocs frame_1_writes args s ++ Jvm.arrayLocs frame_1_arrays args s ++ Jvm.staticLocs frame_1_statics s) 40 192 → Post tb e args s (.returned v) u) :
    ArmFor flags0 classFile x code maxLocals ret World_1 tables_1 room_1 Calls_1 rest_1 Pre_1 Post := by
  intro l hfl _ _ p e ha hc hk s m args below hf hA hF happ hP
  obtain ⟨hcalls, hrest, hpre⟩ := hP
  obtain ⟨-, -, -, hnamed, -, -, -, hat⟩ := (Spec.applies_iff hf).mp happ
  obtain ⟨hg, hn⟩ := and_e (Cond.before_iff.mp (show (Jvm.Cond.and given_1 narrow_1).before args s = true from hpre))
  obtain ⟨hcount, hg1⟩ := and_e hg
  obtain ⟨ha0, hgr0⟩ := and_e hg1
  obtain ⟨ha1, hgr1⟩ := and_e hgr0
  obtain ⟨ha2, hgr2⟩ := and_e hgr1
  obtain ⟨w0, w1, w2, w3, rfl⟩ : ∃ w0 w1 w2 w3 : Value, args = #[w0, w1, w2, w3] := by
    have hs : args.size = 4 := by simpa [Cond.value, given_1] using hcount
    obtain ⟨L⟩ := args
    match L, hs with
    | [w0, w1, w2, w3], _ => exact ⟨w0, w1, w2, w3, rfl⟩
  have hw := fun d (hd : d ∈ tables_1) => atoms_spec (ws := Jvm.Cond.code x code maxLocals ret :: tables_1) hat d (List.mem_cons_of_mem _ hd)
  have hfit : Fit s := fun {y c} hc i hi => by
    obtain ⟨ha, rfl⟩ := Array.getElem?_eq_some_iff.mp hc
    have q := List.all_eq_true.mp ((Array.all_eq_true_iff_forall_mem.mp hF) _ (Array.getElem_mem ha)) i (List.mem_range.mpr hi)
    simpa [Array.getElem?_eq_getElem hi] using q
  obtain ⟨i0, ei0⟩ := is_v ha0
  obtain rfl : w0 = (.int i0) := Option.some.inj ei0
  obtain ⟨i1, ei1⟩ := isL_v ha1
  obtain rfl : w1 = (.long i1) := Option.some.inj ei1
  obtain ⟨i2, ei2⟩ := isL_v ha2
  obtain rfl : w2 = (.long i2) := Option.some.inj ei2
  obtain ⟨i3, ei3⟩ := is_v hgr2
  obtain rfl : w3 = (.int i3) := Option.some.inj ei3
  obtain ⟨hsets, hown0⟩ := atoms_of _ (rest_1_c_eq ▸ (show rest_1_c.before _ s = true from hrest))
  obtain ⟨cs, ecs⟩ := is_v (Cond.before_iff.mp (hsets _ (List.mem_of_getElem? (i := 1) rfl)))
  have hcs := own_ne0 ecs (not_v (Cond.before_iff.mp (hsets _ (List.mem_of_getElem? (i := 2) rfl))))
  obtain ⟨⟨cA, kA, mA, a1, a2, a3, a4⟩, ⟨cL, kL, mL, b1, b2, b3, b4⟩, ⟨cR, kR, mR, d1, d2, d3, d4⟩, -⟩ := hcalls
  have MA : Mir s "java/util/ArrayList" mA := ⟨cA, kA, a1, a2, a3, a4⟩
  have ML : Mir s "java/util/Collections$UnmodifiableList" mL := ⟨cL, kL, b1, b2, b3, b4⟩
  have MR : Mir s "java/util/Collections$UnmodifiableRandomAccessList" mR := ⟨cR, kR, d1, d2, d3, d4⟩
  obtain ⟨aE, clE, sE, AE, zE, fE, evE⟩ := own_start0 hfit (hsets _ (List.mem_of_getElem? (i := 16) rfl)) (hsets _ (List.mem_of_getElem? (i := 15) rfl)) (hsets _ (List.mem_of_getElem? (i := 17) rfl)) (by decide) (Or.inr ⟨(own_hw hw 36 rfl), (hsets _ (List.mem_of_getElem? (i := 11) rfl))⟩)
  have fE' := own_empty fE (List.eq_nil_of_length_eq_zero (by rw [Array.length_toList, zE]; rfl))
  have C1 := own_startC hfit (hsets _ (List.mem_of_getElem? (i := 21) rfl)) (hsets _ (List.mem_of_getElem? (i := 20) rfl)) (hsets _ (List.mem_of_getElem? (i := 22) rfl)) (hsets _ (List.mem_of_getElem? (i := 23) rfl)) (Or.inl (hsets _ (List.mem_of_getElem? (i := 19) rfl)))
  obtain ⟨n, o, h1, h2, h3, _, L, rfl, ⟨rfl, N⟩, hq⟩ := rm0 l s _ hw tables_1 i0 i1 i2 i3 cs aE clE.cls mA mL mR s.heap s.heap.size (Nat.le_refl _) (Sta.start ecs (Or.inl (hsets _ (List.mem_of_getElem? (i := 0) rfl)))) sE fE' C1 hcs ⟨cA, kA, a1, a2, a3⟩ ⟨cL, kL, b1, b2, b3⟩ ⟨cR, kR, d1, d2, d3⟩ (Mir.ne MA ML (by decide)) (Mir.ne MA MR (by decide)) p e ha hc hk s m _ below hf ((Spec.applies_iff_loose hf).mp happ).1 ⟨rfl, State.Warmed39.refl s, rfl⟩ trivial
  refine ⟨n, _, h1, h2, h3, hpost _ _ _ _ _ _ ⟨Cond.after_iff.mpr rfl, Cond.after_iff.mpr (eq_i res_at (Term.int_eval (1)) rfl), trivial⟩ ⟨hq.1, hq.2.1, (hq.2.2.sift fun y hy => Or.inr (N y hy)).mono (by decide) (by decide)⟩⟩
theorem main_1_1 : Claimed_1_1 := comes_1 fun _ _ _ _ _ _ h hF => ⟨h.1, hF⟩
theorem main_1_2 : Claimed_1_2 := comes_1 fun _ _ _ _ _ _ h hF => ⟨h.2.1, hF⟩
end Jvm.Pilot.@@N@@
namespace Jvm.Pilot.@@N@@
open Jvm Jvm.ClassFile Sem Op Lib Jvm.Free Jvm.Stand Jvm.Pilot.@@N@@.Jvm.D
/-! MADE BY PROGRAM (witnessworld.py) out of the Statement's table words and the real class files: 43 classes; the members and pool entries that the words name. The judged class is class 1, her method 2. -/
namespace start1
open Jvm.ClassFile
def u (s : String) : CpInfo := .utf8 (stringToUtf16 s)
/-- a pool by its gaps: so many unusable entries, then the entry; so many at the end -/
def gap : Nat → List CpInfo → List CpInfo
  | 0, r => r
  | n + 1, r => .unusable :: gap n r
def poolList (es : List (Nat × CpInfo)) (last : Nat) : List CpInfo := es.foldr (fun e r => gap e.1 (e.2 :: r)) (gap last [])
def pool (es : List (Nat × CpInfo)) (last : Nat) : Array CpInfo := ⟨poolList es last⟩
def fileOf (pool : Array CpInfo) (this : Nat) (attrs : Array Attribute := #[]) (ms : Array MethodInfo := #[]) (fl : Nat := 33) (sup : Nat := 0) (ifs : Array Nat := #[]) (fds : Array FieldInfo := #[]) : ClassFile where
  minorVersion := 0
  majorVersion := 65
  constantPool := pool
  accessFlags := fl
  thisClass := this
  superClass := sup
  interfaces := ifs
  fields := fds
  methods := ms
  attributes := attrs
def plain (name : String) (sup : Option ClassId) : Class where
  name := name
  kind := .ordinary
  loader := none
  accessFlags := 33
  super := sup
  interfaces := #[]
  cf := none
  fields := #[]
  methods := #[]
  instanceTypes := #[]
  staticTypes := #[]
  resolved := #[]
  callSites := []
  init := .initialized
  statics := none
  mirror := none

def pool0 : Array CpInfo := pool [(5, u "<init>"), (0, u "()V"), (1, .class_ 10), (1, u "java/lang/Object"), (0, u "getClass"), (0, u "()Ljava/lang/Class;")] 111

def k0c0 : Code := { maxStack := 0, maxLocals := 1, code := object_method_1_code, exceptionTable := #[], attributes := #[] }
def k0m0 : Method := { name := "<init>", desc := "()V", sig := { parameters := [], returnType := none }, accessFlags := 1, code := some k0c0 }
def k0m1 : Method := { name := "getClass", desc := "()Ljava/lang/Class;", sig := { parameters := [], returnType := some (.object "java/lang/Class") }, accessFlags := 273, code := none }
/-- java/lang/Object -/
def k0 : Class := { plain "java/lang/Object" none with
  accessFlags := 33
  interfaces := #[]
  cf := some (fileOf pool0 8 #[] #[{ accessFlags := 1, nameIndex := 5, descriptorIndex := 6, attributes := #[] }, { accessFlags := 273, nameIndex := 11, descriptorIndex := 12, attributes := #[] }] 33 0 #[] #[])
  fields := #[]
  methods := #[k0m0, k0m1]
  instanceTypes := #[]
  staticTypes := #[]
  resolved := Array.replicate 124 none
  statics := none }

def pool1 : Array CpInfo := pool [(2, .class_ 4), (0, .nameAndType 5 6), (0, u "java/lang/Object"), (0, u "<init>"), (0, u "()V"), (0, .methodref 8 9), (0, .class_ 10), (0, .nameAndType 11 12), (0, u "com/example/measured_reasoner/measuredreasoner/Summary$Field"), (0, u "value"), (0, u "()Ljava/lang/Number;"), (0, .class_ 14), (0, u "java/lang/Long"), (0, .methodref 8 16), (0, .nameAndType 17 18), (0, u "name"), (0, u "()Ljava/lang/String;"), (0, .methodref 20 21), (0, .class_ 22), (0, .nameAndType 23 24), (0, u "java/lang/String"), (0, u "equals"), (0, u "(Ljava/lang/Object;)Z"), (0, .methodref 13 26), (0, .nameAndType 27 28), (0, u "longValue"), (0, u "()J"), (0, .methodref 20 30), (0, .nameAndType 5 31), (0, u "([C)V"), (0, .methodref 20 33), (0, .nameAndType 34 35), (0, u "valueOf"), (0, u "(C)Ljava/lang/String;"), (0, .class_ 37), (0, u "com/example/measured_reasoner/measuredreasoner/Summary"), (0, .methodref 36 3), (0, .methodref 36 40), (0, .nameAndType 41 42), (0, u "mean"), (0, u "(Ljava/lang/String;D)Lcom/example/measured_reasoner/measuredreasoner/Summary;"), (0, .methodref 36 44), (0, .nameAndType 45 46), (0, u "count"), (0, u "(Ljava/lang/String;J)Lcom/example/measured_reasoner/measuredreasoner/Summary;"), (0, .methodref 36 48), (0, .nameAndType 49 50), (0, u "fields"), (0, u "()Ljava/util/List;"), (0, .interfaceMethodref 52 53), (0, .class_ 54), (0, .nameAndType 55 56), (0, u "java/util/List"), (0, u "size"), (0, u "()I"), (0, .interfaceMethodref 52 58), (0, .nameAndType 59 60), (0, u "get"), (0, u "(I)Ljava/lang/Object;"), (0, .class_ 62), (0, u "java/lang/Double"), (0, .methodref 64 65), (0, .class_ 66), (0, .nameAndType 67 68), (0, u "com/example/measured_reasoner/measuredreasoner/SummaryCountPinLaw"), (0, u "isCount"), (0, u "(Lcom/example/measured_reasoner/measuredreasoner/Summary$Field;Ljava/lang/String;J)Z"), (5, u "law"), (0, u "(IJJI)Z")] 6

def k1m0 : Method := { name := "<init>", desc := "()V", sig := { parameters := [], returnType := none }, accessFlags := 1, code := none }
def k1c1 : Code := { maxStack := 4, maxLocals := 5, code := method_2_code, exceptionTable := #[], attributes := #[] }
def k1m1 : Method := { name := "isCount", desc := "(Lcom/example/measured_reasoner/measuredreasoner/Summary$Field;Ljava/lang/String;J)Z", sig := { parameters := [(.object "com/example/measured_reasoner/measuredreasoner/Summary$Field"), (.object "java/lang/String"), .long], returnType := some .boolean }, accessFlags := 10, code := some k1c1 }
def k1c2 : Code := { maxStack := 4, maxLocals := 16, code := code, exceptionTable := #[], attributes := #[] }
def k1m2 : Method := { name := "law", desc := "(IJJI)Z", sig := { parameters := [.int, .long, .long, .int], returnType := some .boolean }, accessFlags := 9, code := some k1c2 }
/-- com/example/measured_reasoner/measuredreasoner/SummaryCountPinLaw -/
def k1 : Class := { plain "com/example/measured_reasoner/measuredreasoner/SummaryCountPinLaw" (some 0) with
  accessFlags := 49
  interfaces := #[]
  cf := some (fileOf pool1 64 #[] #[{ accessFlags := 1, nameIndex := 5, descriptorIndex := 6, attributes := #[] }, { accessFlags := 10, nameIndex := 67, descriptorIndex := 68, attributes := #[] }, { accessFlags := 9, nameIndex := 74, descriptorIndex := 75, attributes := #[] }] 49 2 #[] #[])
  fields := #[]
  methods := #[k1m0, k1m1, k1m2]
  instanceTypes := #[]
  staticTypes := #[]
  resolved := Array.replicate 82 none
  statics := none }

def pool2 : Array CpInfo := pool [(1, .class_ 2), (0, u "java/io/Serializable"), (0, .class_ 4), (0, u "java/lang/Object")] 2

/-- java/io/Serializable -/
def k2 : Class := { plain "java/io/Serializable" (some 0) with
  accessFlags := 1537
  interfaces := #[]
  cf := some (fileOf pool2 1 #[] #[] 1537 3 #[] #[])
  fields := #[]
  methods := #[]
  instanceTypes := #[]
  staticTypes := #[]
  resolved := Array.replicate 7 none
  statics := none }

def pool3 : Array CpInfo := pool [(1, .class_ 2), (0, u "java/lang/Comparable"), (0, .class_ 4), (0, u "java/lang/Object")] 7

/-- java/lang/Comparable -/
def k3 : Class := { plain "java/lang/Comparable" (some 0) with
  accessFlags := 1537
  interfaces := #[]
  cf := some (fileOf pool3 1 #[] #[] 1537 3 #[] #[])
  fields := #[]
  methods := #[]
  instanceTypes := #[]
  staticTypes := #[]
  resolved := Array.replicate 12 none
  statics := none }

def pool4 : Array CpInfo := pool [(2, .class_ 4), (1, u "java/lang/CharSequence"), (42, .class_ 48), (0, u "java/lang/CharSequence$1CodePointIterator"), (10, .class_ 60), (0, u "java/lang/CharSequence$1CharIterator"), (5, .class_ 67), (0, u "java/lang/Object")] 63

/-- java/lang/CharSequence -/
def k4 : Class := { plain "java/lang/CharSequence" (some 0) with
  accessFlags := 1537
  interfaces := #[]
  cf := some (fileOf pool4 2 #[.nestMembers #[47, 59]] #[] 1537 66 #[] #[])
  fields := #[]
  methods := #[]
  instanceTypes := #[]
  staticTypes := #[]
  resolved := Array.replicate 131 none
  statics := none }

def pool5 : Array CpInfo := pool [(1, .class_ 2), (0, u "java/lang/constant/Constable"), (0, .class_ 4), (0, u "java/lang/Object")] 6

/-- java/lang/constant/Constable -/
def k5 : Class := { plain "java/lang/constant/Constable" (some 0) with
  accessFlags := 1537
  interfaces := #[]
  cf := some (fileOf pool5 1 #[] #[] 1537 3 #[] #[])
  fields := #[]
  methods := #[]
  instanceTypes := #[]
  staticTypes := #[]
  resolved := Array.replicate 11 none
  statics := none }

def pool6 : Array CpInfo := pool [(1, .class_ 2), (0, u "java/lang/constant/ConstantDesc"), (0, .class_ 4), (0, u "java/lang/Object")] 32

/-- java/lang/constant/ConstantDesc -/
def k6 : Class := { plain "java/lang/constant/ConstantDesc" (some 0) with
  accessFlags := 1537
  interfaces := #[]
  cf := some (fileOf pool6 1 #[] #[] 1537 3 #[] #[])
  fields := #[]
  methods := #[]
  instanceTypes := #[]
  staticTypes := #[]
  resolved := Array.replicate 37 none
  statics := none }

def pool7 : Array CpInfo := pool [(1, .methodref 2 3), (0, .class_ 4), (0, .nameAndType 5 6), (0, u "java/lang/Object"), (0, u "<init>"), (0, u "()V"), (2, .fieldref 10 11), (0, .class_ 12), (0, .nameAndType 13 14), (0, u "java/lang/String"), (0, u "value"), (0, u "[B"), (0, .fieldref 10 16), (0, .nameAndType 17 18), (0, u "coder"), (0, u "B"), (2, u "hash"), (0, u "I"), (2, u "hashIsZero"), (0, u "Z"), (0, .methodref 10 28), (0, .nameAndType 5 29), (0, u "([CIILjava/lang/Void;)V"), (8, .fieldref 10 39), (0, .nameAndType 40 26), (0, u "COMPACT_STRINGS"), (1, .class_ 44), (1, u "java/lang/StringUTF16"), (0, u "compress"), (1, .methodref 42 48), (0, .nameAndType 49 50), (0, u "coderFromArrayLen"), (0, u "([BI)B"), (2, u "toBytes"), (53, .class_ 109), (1, u "java/lang/StringLatin1"), (67, .methodref 42 178), (0, .nameAndType 45 179), (0, u "([CII)[B"), (29, .methodref 10 210), (0, .nameAndType 5 211), (0, u "([BB)V"), (157, u "(C)Z"), (173, u "equals"), (29, u "(Ljava/lang/Object;)Z"), (1, .class_ 576), (0, u "java/lang/CharSequence"), (22, u "CASE_INSENSITIVE_ORDER"), (0, u "Ljava/util/Comparator;"), (181, u "valueOf"), (0, u "(C)Ljava/lang/String;"), (226, u "([C)V"), (4, .methodref 107 1016), (0, .nameAndType 1017 369), (0, u "canEncode"), (0, .methodref 107 1019), (0, .nameAndType 53 1020), (0, u "(C)[B"), (80, u "serialPersistentFields"), (0, u "[Ljava/io/ObjectStreamField;"), (0, .class_ 1104), (0, u "java/lang/String$CaseInsensitiveComparator"), (1, .class_ 1107), (0, u "java/io/Serializable"), (0, .class_ 1109), (0, u "java/lang/Comparable"), (0, .class_ 1111), (0, u "java/lang/constant/Constable"), (0, .class_ 1113), (0, u "java/lang/constant/ConstantDesc"), (2, u "serialVersionUID"), (0, u "J"), (3, u "REPL"), (0, u "C"), (2, u "LATIN1"), (1, u "UTF16")] 323

def k7m0 : Method := { name := "<init>", desc := "()V", sig := { parameters := [], returnType := none }, accessFlags := 1, code := none }
def k7c1 : Code := { maxStack := 5, maxLocals := 2, code := jdk_42_method_3_code, exceptionTable := #[], attributes := #[] }
def k7m1 : Method := { name := "<init>", desc := "([C)V", sig := { parameters := [(.array .char)], returnType := none }, accessFlags := 1, code := some k7c1 }
def k7c2 : Code := { maxStack := 2, maxLocals := 3, code := jdk_42_method_66_code, exceptionTable := #[], attributes := #[] }
def k7m2 : Method := { name := "equals", desc := "(Ljava/lang/Object;)Z", sig := { parameters := [(.object "java/lang/Object")], returnType := some .boolean }, accessFlags := 1, code := some k7c2 }
def k7c3 : Code := { maxStack := 4, maxLocals := 1, code := jdk_42_method_139_code, exceptionTable := #[], attributes := #[] }
def k7m3 : Method := { name := "valueOf", desc := "(C)Ljava/lang/String;", sig := { parameters := [.char], returnType := some (.object "java/lang/String") }, accessFlags := 9, code := some k7c3 }
def k7c4 : Code := { maxStack := 4, maxLocals := 6, code := jdk_42_method_149_code, exceptionTable := #[], attributes := #[] }
def k7m4 : Method := { name := "<init>", desc := "([CIILjava/lang/Void;)V", sig := { parameters := [(.array .char), .int, .int, (.object "java/lang/Void")], returnType := none }, accessFlags := 2, code := some k7c4 }
def k7c5 : Code := { maxStack := 2, maxLocals := 3, code := jdk_42_method_151_code, exceptionTable := #[], attributes := #[] }
def k7m5 : Method := { name := "<init>", desc := "([BB)V", sig := { parameters := [(.array .byte), .byte], returnType := none }, accessFlags := 0, code := some k7c5 }
/-- java/lang/String -/
def k7 : Class := { plain "java/lang/String" (some 0) with
  accessFlags := 49
  interfaces := #[2, 3, 4, 5, 6]
  cf := some (fileOf pool7 10 #[.nestMembers #[1103]] #[{ accessFlags := 1, nameIndex := 5, descriptorIndex := 6, attributes := #[] }, { accessFlags := 1, nameIndex := 5, descriptorIndex := 1010, attributes := #[] }, { accessFlags := 1, nameIndex := 543, descriptorIndex := 573, attributes := #[] }, { accessFlags := 9, nameIndex := 782, descriptorIndex := 783, attributes := #[] }, { accessFlags := 2, nameIndex := 5, descriptorIndex := 29, attributes := #[] }, { accessFlags := 0, nameIndex := 5, descriptorIndex := 211, attributes := #[] }] 49 2 #[1106, 1108, 575, 1110, 1112] #[{ accessFlags := 18, nameIndex := 13, descriptorIndex := 14, attributes := #[] }, { accessFlags := 18, nameIndex := 17, descriptorIndex := 18, attributes := #[] }, { accessFlags := 2, nameIndex := 21, descriptorIndex := 22, attributes := #[] }, { accessFlags := 2, nameIndex := 25, descriptorIndex := 26, attributes := #[] }, { accessFlags := 26, nameIndex := 1116, descriptorIndex := 1117, attributes := #[] }, { accessFlags := 24, nameIndex := 40, descriptorIndex := 26, attributes := #[] }, { accessFlags := 26, nameIndex := 1101, descriptorIndex := 1102, attributes := #[] }, { accessFlags := 26, nameIndex := 1121, descriptorIndex := 1122, attributes := #[] }, { accessFlags := 25, nameIndex := 599, descriptorIndex := 600, attributes := #[] }, { accessFlags := 24, nameIndex := 1125, descriptorIndex := 18, attributes := #[] }, { accessFlags := 24, nameIndex := 1127, descriptorIndex := 18, attributes := #[] }])
  fields := #[{ name := "value", type := (.array .byte), accessFlags := 18, slot := 0, constantValue := 0 }, { name := "coder", type := .byte, accessFlags := 18, slot := 1, constantValue := 0 }, { name := "hash", type := .int, accessFlags := 2, slot := 2, constantValue := 0 }, { name := "hashIsZero", type := .boolean, accessFlags := 2, slot := 3, constantValue := 0 }, { name := "serialVersionUID", type := .long, accessFlags := 26, slot := 0, constantValue := 0 }, { name := "COMPACT_STRINGS", type := .boolean, accessFlags := 24, slot := 1, constantValue := 0 }, { name := "serialPersistentFields", type := (.array (.object "java/io/ObjectStreamField")), accessFlags := 26, slot := 2, constantValue := 0 }, { name := "REPL", type := .char, accessFlags := 26, slot := 3, constantValue := 0 }, { name := "CASE_INSENSITIVE_ORDER", type := (.object "java/util/Comparator"), accessFlags := 25, slot := 4, constantValue := 0 }, { name := "LATIN1", type := .byte, accessFlags := 24, slot := 5, constantValue := 0 }, { name := "UTF16", type := .byte, accessFlags := 24, slot := 6, constantValue := 0 }]
  methods := #[k7m0, k7m1, k7m2, k7m3, k7m4, k7m5]
  instanceTypes := #[(.array .byte), .byte, .int, .boolean]
  staticTypes := #[.long, .boolean, (.array (.object "java/io/ObjectStreamField")), .char, (.object "java/util/Comparator"), .byte, .byte]
  resolved := Array.replicate 1451 none
  statics := some 0 }

def pool8 : Array CpInfo := pool [(4, .class_ 6), (1, u "java/lang/Object"), (0, u "<init>"), (0, u "()V"), (5, .class_ 16), (1, u "java/lang/StringLatin1"), (73, u "canEncode"), (14, u "(C)Z"), (15, u "$assertionsDisabled"), (0, u "Z"), (98, .class_ 223), (1, u "java/lang/StringLatin1$LinesSpliterator"), (156, u "toBytes"), (1, u "(C)[B"), (7, .class_ 391), (0, u "java/lang/StringLatin1$CharsSpliterator")] 3

def k8m0 : Method := { name := "<init>", desc := "()V", sig := { parameters := [], returnType := none }, accessFlags := 0, code := none }
def k8c1 : Code := { maxStack := 2, maxLocals := 1, code := jdk_43_method_3_code, exceptionTable := #[], attributes := #[] }
def k8m1 : Method := { name := "canEncode", desc := "(C)Z", sig := { parameters := [.char], returnType := some .boolean }, accessFlags := 9, code := some k8c1 }
def k8c2 : Code := { maxStack := 4, maxLocals := 1, code := jdk_43_method_46_code, exceptionTable := #[], attributes := #[] }
def k8m2 : Method := { name := "toBytes", desc := "(C)[B", sig := { parameters := [.char], returnType := some (.array .byte) }, accessFlags := 9, code := some k8c2 }
/-- java/lang/StringLatin1 -/
def k8 : Class := { plain "java/lang/StringLatin1" (some 0) with
  accessFlags := 48
  interfaces := #[]
  cf := some (fileOf pool8 14 #[.nestMembers #[390, 221]] #[{ accessFlags := 0, nameIndex := 7, descriptorIndex := 8, attributes := #[] }, { accessFlags := 9, nameIndex := 90, descriptorIndex := 105, attributes := #[] }, { accessFlags := 9, nameIndex := 380, descriptorIndex := 382, attributes := #[] }] 48 4 #[] #[{ accessFlags := 4120, nameIndex := 121, descriptorIndex := 122, attributes := #[] }])
  fields := #[{ name := "$assertionsDisabled", type := .boolean, accessFlags := 4120, slot := 0, constantValue := 0 }]
  methods := #[k8m0, k8m1, k8m2]
  instanceTypes := #[]
  staticTypes := #[.boolean]
  resolved := Array.replicate 395 none
  statics := none }

def pool9 : Array CpInfo := pool [(1, .methodref 2 3), (0, .class_ 4), (0, .nameAndType 5 6), (0, u "java/lang/Object"), (0, u "<init>"), (0, u "()V"), (0, .class_ 8), (0, u "java/util/ArrayList"), (0, .methodref 7 3), (0, .fieldref 11 12), (0, .class_ 13), (0, .nameAndType 14 15), (0, u "com/example/measured_reasoner/measuredreasoner/Summary"), (0, u "fields"), (0, u "Ljava/util/List;"), (0, .class_ 17), (0, u "com/example/measured_reasoner/measuredreasoner/Summary$Field"), (0, .methodref 19 20), (0, .class_ 21), (0, .nameAndType 22 23), (0, u "java/lang/Long"), (0, u "valueOf"), (0, u "(J)Ljava/lang/Long;"), (0, .methodref 16 25), (0, .nameAndType 5 26), (0, u "(Ljava/lang/String;Ljava/lang/Number;)V"), (0, .interfaceMethodref 28 29), (0, .class_ 30), (0, .nameAndType 31 32), (0, u "java/util/List"), (0, u "add"), (0, u "(Ljava/lang/Object;)Z"), (0, .methodref 34 35), (0, .class_ 36), (0, .nameAndType 22 37), (0, u "java/lang/Double"), (0, u "(D)Ljava/lang/Double;"), (0, .methodref 39 40), (0, .class_ 41), (0, .nameAndType 42 43), (0, u "java/util/Collections"), (0, u "unmodifiableList"), (0, u "(Ljava/util/List;)Ljava/util/List;"), (40, u "count"), (0, u "(Ljava/lang/String;J)Lcom/example/measured_reasoner/measuredreasoner/Summary;"), (0, u "mean"), (0, u "(Ljava/lang/String;D)Lcom/example/measured_reasoner/measuredreasoner/Summary;"), (0, u "()Ljava/util/List;")] 9

def k9c0 : Code := { maxStack := 3, maxLocals := 1, code := prog_19_method_1_code, exceptionTable := #[], attributes := #[] }
def k9m0 : Method := { name := "<init>", desc := "()V", sig := { parameters := [], returnType := none }, accessFlags := 0, code := some k9c0 }
def k9c1 : Code := { maxStack := 6, maxLocals := 4, code := prog_19_method_2_code, exceptionTable := #[], attributes := #[] }
def k9m1 : Method := { name := "count", desc := "(Ljava/lang/String;J)Lcom/example/measured_reasoner/measuredreasoner/Summary;", sig := { parameters := [(.object "java/lang/String"), .long], returnType := some (.object "com/example/measured_reasoner/measuredreasoner/Summary") }, accessFlags := 0, code := some k9c1 }
def k9c2 : Code := { maxStack := 6, maxLocals := 4, code := prog_19_method_3_code, exceptionTable := #[], attributes := #[] }
def k9m2 : Method := { name := "mean", desc := "(Ljava/lang/String;D)Lcom/example/measured_reasoner/measuredreasoner/Summary;", sig := { parameters := [(.object "java/lang/String"), .double], returnType := some (.object "com/example/measured_reasoner/measuredreasoner/Summary") }, accessFlags := 0, code := some k9c2 }
def k9c3 : Code := { maxStack := 1, maxLocals := 1, code := prog_19_method_4_code, exceptionTable := #[], attributes := #[] }
def k9m3 : Method := { name := "fields", desc := "()Ljava/util/List;", sig := { parameters := [], returnType := some (.object "java/util/List") }, accessFlags := 0, code := some k9c3 }
/-- com/example/measured_reasoner/measuredreasoner/Summary -/
def k9 : Class := { plain "com/example/measured_reasoner/measuredreasoner/Summary" (some 0) with
  accessFlags := 32
  interfaces := #[]
  cf := some (fileOf pool9 11 #[.nestMembers #[16]] #[{ accessFlags := 0, nameIndex := 5, descriptorIndex := 6, attributes := #[] }, { accessFlags := 0, nameIndex := 84, descriptorIndex := 85, attributes := #[] }, { accessFlags := 0, nameIndex := 86, descriptorIndex := 87, attributes := #[] }, { accessFlags := 0, nameIndex := 14, descriptorIndex := 88, attributes := #[] }] 32 2 #[] #[{ accessFlags := 18, nameIndex := 14, descriptorIndex := 15, attributes := #[] }])
  fields := #[{ name := "fields", type := (.object "java/util/List"), accessFlags := 18, slot := 0, constantValue := 0 }]
  methods := #[k9m0, k9m1, k9m2, k9m3]
  instanceTypes := #[(.object "java/util/List")]
  staticTypes := #[]
  resolved := Array.replicate 98 none
  statics := none }

def pool10 : Array CpInfo := pool [(8, .class_ 10), (1, u "java/lang/Iterable"), (24, .class_ 36), (0, u "java/lang/Object")] 25

/-- java/lang/Iterable -/
def k10 : Class := { plain "java/lang/Iterable" (some 0) with
  accessFlags := 1537
  interfaces := #[]
  cf := some (fileOf pool10 8 #[] #[] 1537 35 #[] #[])
  fields := #[]
  methods := #[]
  instanceTypes := #[]
  staticTypes := #[]
  resolved := Array.replicate 62 none
  statics := none }

def pool11 : Array CpInfo := pool [(10, .class_ 12), (1, u "java/util/Collection"), (47, .class_ 61), (0, u "java/lang/Object"), (0, .class_ 63), (0, u "java/lang/Iterable"), (0, u "size"), (0, u "()I")] 49

def k11m0 : Method := { name := "size", desc := "()I", sig := { parameters := [], returnType := some .int }, accessFlags := 1025, code := none }
/-- java/util/Collection -/
def k11 : Class := { plain "java/util/Collection" (some 0) with
  accessFlags := 1537
  interfaces := #[10]
  cf := some (fileOf pool11 10 #[] #[{ accessFlags := 1025, nameIndex := 64, descriptorIndex := 65, attributes := #[] }] 1537 60 #[62] #[])
  fields := #[]
  methods := #[k11m0]
  instanceTypes := #[]
  staticTypes := #[]
  resolved := Array.replicate 115 none
  statics := none }

def pool12 : Array CpInfo := pool [(1, .methodref 2 3), (0, .class_ 4), (0, .nameAndType 5 6), (0, u "java/lang/Object"), (0, u "<init>"), (0, u "()V"), (1, .class_ 10), (1, u "java/util/AbstractCollection"), (66, .class_ 78), (0, u "java/util/Collection")] 81

def k12c0 : Code := { maxStack := 1, maxLocals := 1, code := jdk_22_method_1_code, exceptionTable := #[], attributes := #[] }
def k12m0 : Method := { name := "<init>", desc := "()V", sig := { parameters := [], returnType := none }, accessFlags := 4, code := some k12c0 }
/-- java/util/AbstractCollection -/
def k12 : Class := { plain "java/util/AbstractCollection" (some 0) with
  accessFlags := 1057
  interfaces := #[11]
  cf := some (fileOf pool12 8 #[] #[{ accessFlags := 4, nameIndex := 5, descriptorIndex := 6, attributes := #[] }] 1057 2 #[77] #[])
  fields := #[]
  methods := #[k12m0]
  instanceTypes := #[]
  staticTypes := #[]
  resolved := Array.replicate 160 none
  statics := none }

def pool13 : Array CpInfo := pool [(8, .class_ 10), (1, u "java/util/SequencedCollection"), (15, .class_ 27), (0, u "java/lang/Object"), (0, .class_ 29), (0, u "java/util/Collection")] 27

/-- java/util/SequencedCollection -/
def k13 : Class := { plain "java/util/SequencedCollection" (some 0) with
  accessFlags := 1537
  interfaces := #[11]
  cf := some (fileOf pool13 8 #[] #[] 1537 26 #[28] #[])
  fields := #[]
  methods := #[]
  instanceTypes := #[]
  staticTypes := #[]
  resolved := Array.replicate 57 none
  statics := none }

def pool14 : Array CpInfo := pool [(8, .class_ 10), (1, u "java/util/List"), (49, u "add"), (3, u "(Ljava/lang/Object;)Z"), (10, u "get"), (0, u "(I)Ljava/lang/Object;"), (2, u "size"), (0, u "()I"), (22, .class_ 104), (0, u "java/lang/Object"), (15, .class_ 121), (0, u "java/util/SequencedCollection")] 129

def k14m0 : Method := { name := "size", desc := "()I", sig := { parameters := [], returnType := some .int }, accessFlags := 1025, code := none }
def k14m1 : Method := { name := "add", desc := "(Ljava/lang/Object;)Z", sig := { parameters := [(.object "java/lang/Object")], returnType := some .boolean }, accessFlags := 1025, code := none }
def k14m2 : Method := { name := "get", desc := "(I)Ljava/lang/Object;", sig := { parameters := [.int], returnType := some (.object "java/lang/Object") }, accessFlags := 1025, code := none }
/-- java/util/List -/
def k14 : Class := { plain "java/util/List" (some 0) with
  accessFlags := 1537
  interfaces := #[13]
  cf := some (fileOf pool14 8 #[] #[{ accessFlags := 1025, nameIndex := 79, descriptorIndex := 80, attributes := #[] }, { accessFlags := 1025, nameIndex := 60, descriptorIndex := 64, attributes := #[] }, { accessFlags := 1025, nameIndex := 75, descriptorIndex := 76, attributes := #[] }] 1537 103 #[120] #[])
  fields := #[]
  methods := #[k14m0, k14m1, k14m2]
  instanceTypes := #[]
  staticTypes := #[]
  resolved := Array.replicate 251 none
  statics := none }

def pool15 : Array CpInfo := pool [(1, .methodref 2 3), (0, .class_ 4), (0, .nameAndType 5 6), (0, u "java/util/AbstractCollection"), (0, u "<init>"), (0, u "()V"), (0, .fieldref 8 9), (0, .class_ 10), (0, .nameAndType 11 12), (0, u "java/util/AbstractList"), (0, u "modCount"), (0, u "I"), (64, .class_ 78), (0, u "java/util/AbstractList$Itr"), (3, .class_ 83), (0, u "java/util/AbstractList$ListItr"), (9, .class_ 94), (0, u "java/util/AbstractList$RandomAccessSubList"), (3, .class_ 99), (0, u "java/util/AbstractList$SubList"), (33, .class_ 134), (0, u "java/util/List"), (73, .class_ 209), (0, u "java/util/AbstractList$SubList$1"), (0, .class_ 211), (0, u "java/util/AbstractList$RandomAccessSpliterator")] 6

def k15c0 : Code := { maxStack := 2, maxLocals := 1, code := jdk_39_method_1_code, exceptionTable := #[], attributes := #[] }
def k15m0 : Method := { name := "<init>", desc := "()V", sig := { parameters := [], returnType := none }, accessFlags := 4, code := some k15c0 }
/-- java/util/AbstractList -/
def k15 : Class := { plain "java/util/AbstractList" (some 12) with
  accessFlags := 1057
  interfaces := #[14]
  cf := some (fileOf pool15 8 #[.nestMembers #[93, 98, 208, 210, 82, 77]] #[{ accessFlags := 4, nameIndex := 5, descriptorIndex := 6, attributes := #[] }] 1057 2 #[133] #[{ accessFlags := 132, nameIndex := 11, descriptorIndex := 12, attributes := #[] }])
  fields := #[{ name := "modCount", type := .int, accessFlags := 132, slot := 0, constantValue := 0 }]
  methods := #[k15m0]
  instanceTypes := #[.int]
  staticTypes := #[]
  resolved := Array.replicate 218 none
  statics := none }

def pool16 : Array CpInfo := pool [(1, .class_ 2), (0, u "java/util/RandomAccess"), (0, .class_ 4), (0, u "java/lang/Object")] 2

/-- java/util/RandomAccess -/
def k16 : Class := { plain "java/util/RandomAccess" (some 0) with
  accessFlags := 1537
  interfaces := #[]
  cf := some (fileOf pool16 1 #[] #[] 1537 3 #[] #[])
  fields := #[]
  methods := #[]
  instanceTypes := #[]
  staticTypes := #[]
  resolved := Array.replicate 7 none
  statics := none }

def pool17 : Array CpInfo := pool [(1, .class_ 2), (0, u "java/lang/Cloneable"), (0, .class_ 4), (0, u "java/lang/Object")] 2

/-- java/lang/Cloneable -/
def k17 : Class := { plain "java/lang/Cloneable" (some 0) with
  accessFlags := 1537
  interfaces := #[]
  cf := some (fileOf pool17 1 #[] #[] 1537 3 #[] #[])
  fields := #[]
  methods := #[]
  instanceTypes := #[]
  staticTypes := #[]
  resolved := Array.replicate 7 none
  statics := none }

def pool18 : Array CpInfo := pool [(1, .methodref 2 3), (0, .class_ 4), (0, .nameAndType 5 6), (0, u "java/util/AbstractList"), (0, u "<init>"), (0, u "()V"), (0, .class_ 8), (0, u "java/lang/Object"), (0, .fieldref 10 11), (0, .class_ 12), (0, .nameAndType 13 14), (0, u "java/util/ArrayList"), (0, u "elementData"), (0, u "[Ljava/lang/Object;"), (2, u "EMPTY_ELEMENTDATA"), (21, .fieldref 10 40), (0, .nameAndType 41 14), (0, u "DEFAULTCAPACITY_EMPTY_ELEMENTDATA"), (5, u "()[Ljava/lang/Object;"), (0, .fieldref 10 49), (0, .nameAndType 50 51), (0, u "size"), (0, u "I"), (11, .fieldref 10 64), (0, .nameAndType 65 51), (0, u "modCount"), (3, .methodref 10 70), (0, .nameAndType 71 72), (0, u "grow"), (0, u "(I)[Ljava/lang/Object;"), (6, .methodref 80 81), (0, .class_ 82), (0, .nameAndType 83 84), (0, u "java/lang/Math"), (0, u "max"), (0, u "(II)I"), (11, u "(Ljava/lang/Object;)Z"), (21, .methodref 119 120), (0, .class_ 121), (0, .nameAndType 122 84), (0, u "java/util/Objects"), (0, u "checkIndex"), (0, .methodref 10 124), (0, .nameAndType 13 125), (0, u "(I)Ljava/lang/Object;"), (3, .methodref 10 130), (0, .nameAndType 71 47), (0, .methodref 10 132), (0, .nameAndType 133 134), (0, u "add"), (0, u "(Ljava/lang/Object;[Ljava/lang/Object;I)V"), (13, .class_ 149), (0, u "java/util/List"), (36, u "()I"), (75, .class_ 263), (0, u "java/util/ArrayList$ListItr"), (3, .class_ 268), (0, u "java/util/ArrayList$Itr"), (7, .class_ 277), (0, u "java/util/ArrayList$SubList"), (12, .class_ 291), (0, u "java/util/ArrayList$ArrayListSpliterator"), (37, .class_ 330), (0, u "java/util/RandomAccess"), (0, .class_ 332), (0, u "java/lang/Cloneable"), (0, .class_ 334), (0, u "java/io/Serializable"), (0, u "serialVersionUID"), (0, u "J"), (3, u "DEFAULT_CAPACITY"), (40, u "get"), (118, .class_ 501), (0, u "java/util/ArrayList$SubList$2"), (0, .class_ 503), (0, u "java/util/ArrayList$SubList$1")] 5

def k18c0 : Code := { maxStack := 2, maxLocals := 1, code := jdk_38_method_2_code, exceptionTable := #[], attributes := #[] }
def k18m0 : Method := { name := "<init>", desc := "()V", sig := { parameters := [], returnType := none }, accessFlags := 1, code := some k18c0 }
def k18c1 : Code := { maxStack := 4, maxLocals := 4, code := jdk_38_method_6_code, exceptionTable := #[], attributes := #[] }
def k18m1 : Method := { name := "grow", desc := "(I)[Ljava/lang/Object;", sig := { parameters := [.int], returnType := some (.array (.object "java/lang/Object")) }, accessFlags := 2, code := some k18c1 }
def k18c2 : Code := { maxStack := 3, maxLocals := 1, code := jdk_38_method_7_code, exceptionTable := #[], attributes := #[] }
def k18m2 : Method := { name := "grow", desc := "()[Ljava/lang/Object;", sig := { parameters := [], returnType := some (.array (.object "java/lang/Object")) }, accessFlags := 2, code := some k18c2 }
def k18c3 : Code := { maxStack := 1, maxLocals := 1, code := jdk_38_method_8_code, exceptionTable := #[], attributes := #[] }
def k18m3 : Method := { name := "size", desc := "()I", sig := { parameters := [], returnType := some .int }, accessFlags := 1, code := some k18c3 }
def k18c4 : Code := { maxStack := 2, maxLocals := 2, code := jdk_38_method_18_code, exceptionTable := #[], attributes := #[] }
def k18m4 : Method := { name := "elementData", desc := "(I)Ljava/lang/Object;", sig := { parameters := [.int], returnType := some (.object "java/lang/Object") }, accessFlags := 0, code := some k18c4 }
def k18c5 : Code := { maxStack := 2, maxLocals := 2, code := jdk_38_method_20_code, exceptionTable := #[], attributes := #[] }
def k18m5 : Method := { name := "get", desc := "(I)Ljava/lang/Object;", sig := { parameters := [.int], returnType := some (.object "java/lang/Object") }, accessFlags := 1, code := some k18c5 }
def k18c6 : Code := { maxStack := 3, maxLocals := 4, code := jdk_38_method_24_code, exceptionTable := #[], attributes := #[] }
def k18m6 : Method := { name := "add", desc := "(Ljava/lang/Object;[Ljava/lang/Object;I)V", sig := { parameters := [(.object "java/lang/Object"), (.array (.object "java/lang/Object")), .int], returnType := none }, accessFlags := 2, code := some k18c6 }
def k18c7 : Code := { maxStack := 4, maxLocals := 2, code := jdk_38_method_25_code, exceptionTable := #[], attributes := #[] }
def k18m7 : Method := { name := "add", desc := "(Ljava/lang/Object;)Z", sig := { parameters := [(.object "java/lang/Object")], returnType := some .boolean }, accessFlags := 1, code := some k18c7 }
/-- java/util/ArrayList -/
def k18 : Class := { plain "java/util/ArrayList" (some 15) with
  accessFlags := 33
  interfaces := #[14, 16, 17, 2]
  cf := some (fileOf pool18 10 #[.nestMembers #[290, 276, 500, 502, 262, 267]] #[{ accessFlags := 1, nameIndex := 5, descriptorIndex := 6, attributes := #[] }, { accessFlags := 2, nameIndex := 71, descriptorIndex := 72, attributes := #[] }, { accessFlags := 2, nameIndex := 71, descriptorIndex := 47, attributes := #[] }, { accessFlags := 1, nameIndex := 50, descriptorIndex := 186, attributes := #[] }, { accessFlags := 0, nameIndex := 13, descriptorIndex := 125, attributes := #[] }, { accessFlags := 1, nameIndex := 381, descriptorIndex := 125, attributes := #[] }, { accessFlags := 2, nameIndex := 133, descriptorIndex := 134, attributes := #[] }, { accessFlags := 1, nameIndex := 133, descriptorIndex := 96, attributes := #[] }] 33 2 #[148, 329, 331, 333] #[{ accessFlags := 26, nameIndex := 335, descriptorIndex := 336, attributes := #[] }, { accessFlags := 26, nameIndex := 340, descriptorIndex := 51, attributes := #[] }, { accessFlags := 26, nameIndex := 17, descriptorIndex := 14, attributes := #[] }, { accessFlags := 26, nameIndex := 41, descriptorIndex := 14, attributes := #[] }, { accessFlags := 128, nameIndex := 13, descriptorIndex := 14, attributes := #[] }, { accessFlags := 2, nameIndex := 50, descriptorIndex := 51, attributes := #[] }])
  fields := #[{ name := "serialVersionUID", type := .long, accessFlags := 26, slot := 0, constantValue := 0 }, { name := "DEFAULT_CAPACITY", type := .int, accessFlags := 26, slot := 1, constantValue := 0 }, { name := "EMPTY_ELEMENTDATA", type := (.array (.object "java/lang/Object")), accessFlags := 26, slot := 2, constantValue := 0 }, { name := "DEFAULTCAPACITY_EMPTY_ELEMENTDATA", type := (.array (.object "java/lang/Object")), accessFlags := 26, slot := 3, constantValue := 0 }, { name := "elementData", type := (.array (.object "java/lang/Object")), accessFlags := 128, slot := 1, constantValue := 0 }, { name := "size", type := .int, accessFlags := 2, slot := 2, constantValue := 0 }]
  methods := #[k18m0, k18m1, k18m2, k18m3, k18m4, k18m5, k18m6, k18m7]
  instanceTypes := #[.int, (.array (.object "java/lang/Object")), .int]
  staticTypes := #[.long, .int, (.array (.object "java/lang/Object")), (.array (.object "java/lang/Object"))]
  resolved := Array.replicate 509 none
  mirror := some 4
  statics := some 1 }

def pool19 : Array CpInfo := pool [(1, .methodref 2 3), (0, .class_ 4), (0, .nameAndType 5 6), (0, u "java/lang/Object"), (0, u "<init>"), (0, u "()V"), (0, .class_ 8), (0, u "java/lang/Record")] 13

def k19c0 : Code := { maxStack := 1, maxLocals := 1, code := jdk_30_method_1_code, exceptionTable := #[], attributes := #[] }
def k19m0 : Method := { name := "<init>", desc := "()V", sig := { parameters := [], returnType := none }, accessFlags := 4, code := some k19c0 }
/-- java/lang/Record -/
def k19 : Class := { plain "java/lang/Record" (some 0) with
  accessFlags := 1057
  interfaces := #[]
  cf := some (fileOf pool19 7 #[] #[{ accessFlags := 4, nameIndex := 5, descriptorIndex := 6, attributes := #[] }] 1057 2 #[] #[])
  fields := #[]
  methods := #[k19m0]
  instanceTypes := #[]
  staticTypes := #[]
  resolved := Array.replicate 22 none
  statics := none }

def pool20 : Array CpInfo := pool [(1, .methodref 2 3), (0, .class_ 4), (0, .nameAndType 5 6), (0, u "java/lang/Record"), (0, u "<init>"), (0, u "()V"), (0, .fieldref 8 9), (0, .class_ 10), (0, .nameAndType 11 12), (0, u "com/example/measured_reasoner/measuredreasoner/Summary$Field"), (0, u "name"), (0, u "Ljava/lang/String;"), (0, .fieldref 8 14), (0, .nameAndType 15 16), (0, u "value"), (0, u "Ljava/lang/Number;"), (21, u "()Ljava/lang/String;"), (18, u "(Ljava/lang/String;Ljava/lang/Number;)V"), (5, u "()Ljava/lang/Number;"), (7, .class_ 72), (0, u "com/example/measured_reasoner/measuredreasoner/Summary")] 20

def k20c0 : Code := { maxStack := 2, maxLocals := 3, code := prog_20_method_1_code, exceptionTable := #[], attributes := #[] }
def k20m0 : Method := { name := "<init>", desc := "(Ljava/lang/String;Ljava/lang/Number;)V", sig := { parameters := [(.object "java/lang/String"), (.object "java/lang/Number")], returnType := none }, accessFlags := 0, code := some k20c0 }
def k20c1 : Code := { maxStack := 1, maxLocals := 1, code := prog_20_method_7_code, exceptionTable := #[], attributes := #[] }
def k20m1 : Method := { name := "name", desc := "()Ljava/lang/String;", sig := { parameters := [], returnType := some (.object "java/lang/String") }, accessFlags := 1, code := some k20c1 }
def k20c2 : Code := { maxStack := 1, maxLocals := 1, code := prog_20_method_8_code, exceptionTable := #[], attributes := #[] }
def k20m2 : Method := { name := "value", desc := "()Ljava/lang/Number;", sig := { parameters := [], returnType := some (.object "java/lang/Number") }, accessFlags := 1, code := some k20c2 }
/-- com/example/measured_reasoner/measuredreasoner/Summary$Field -/
def k20 : Class := { plain "com/example/measured_reasoner/measuredreasoner/Summary$Field" (some 19) with
  accessFlags := 48
  interfaces := #[]
  cf := some (fileOf pool20 8 #[.nestHost 71] #[{ accessFlags := 0, nameIndex := 5, descriptorIndex := 57, attributes := #[] }, { accessFlags := 1, nameIndex := 11, descriptorIndex := 38, attributes := #[] }, { accessFlags := 1, nameIndex := 15, descriptorIndex := 63, attributes := #[] }] 48 2 #[] #[{ accessFlags := 18, nameIndex := 11, descriptorIndex := 12, attributes := #[] }, { accessFlags := 18, nameIndex := 15, descriptorIndex := 16, attributes := #[] }])
  fields := #[{ name := "name", type := (.object "java/lang/String"), accessFlags := 18, slot := 0, constantValue := 0 }, { name := "value", type := (.object "java/lang/Number"), accessFlags := 18, slot := 1, constantValue := 0 }]
  methods := #[k20m0, k20m1, k20m2]
  instanceTypes := #[(.object "java/lang/String"), (.object "java/lang/Number")]
  staticTypes := #[]
  resolved := Array.replicate 93 none
  statics := none }

def pool21 : Array CpInfo := pool [(1, .methodref 2 3), (0, .class_ 4), (0, .nameAndType 5 6), (0, u "java/lang/Object"), (0, u "<init>"), (0, u "()V"), (1, .class_ 10), (1, u "java/lang/Number"), (2, .class_ 14), (0, u "java/io/Serializable"), (0, u "serialVersionUID"), (0, u "J")] 20

def k21c0 : Code := { maxStack := 1, maxLocals := 1, code := jdk_18_method_1_code, exceptionTable := #[], attributes := #[] }
def k21m0 : Method := { name := "<init>", desc := "()V", sig := { parameters := [], returnType := none }, accessFlags := 1, code := some k21c0 }
/-- java/lang/Number -/
def k21 : Class := { plain "java/lang/Number" (some 0) with
  accessFlags := 1057
  interfaces := #[2]
  cf := some (fileOf pool21 8 #[] #[{ accessFlags := 1, nameIndex := 5, descriptorIndex := 6, attributes := #[] }] 1057 2 #[13] #[{ accessFlags := 26, nameIndex := 15, descriptorIndex := 16, attributes := #[] }])
  fields := #[{ name := "serialVersionUID", type := .long, accessFlags := 26, slot := 0, constantValue := 0 }]
  methods := #[k21m0]
  instanceTypes := #[]
  staticTypes := #[.long]
  resolved := Array.replicate 37 none
  statics := none }

def pool22 : Array CpInfo := pool [(1, .class_ 2), (0, u "java/lang/Long"), (55, .nameAndType 59 60), (0, u "<init>"), (0, u "()V"), (24, u "valueOf"), (143, u "(J)Ljava/lang/Long;"), (0, .long 18446744073709551488), (1, .long 127), (1, .fieldref 235 236), (0, .class_ 237), (0, .nameAndType 238 239), (0, u "java/lang/Long$LongCache"), (0, u "cache"), (0, u "[Ljava/lang/Long;"), (0, .methodref 1 241), (0, .nameAndType 59 242), (0, u "(J)V"), (27, .methodref 271 58), (0, .class_ 272), (0, u "java/lang/Number"), (0, .fieldref 1 274), (0, .nameAndType 275 276), (0, u "value"), (0, u "J"), (5, u "longValue"), (0, u "()J"), (77, u "TYPE"), (0, u "Ljava/lang/Class;"), (0, .class_ 364), (0, u "java/lang/Comparable"), (0, .class_ 366), (0, u "java/lang/constant/Constable"), (0, .class_ 368), (0, u "java/lang/constant/ConstantDesc"), (0, u "MIN_VALUE"), (1, u "MAX_VALUE"), (4, u "SIZE"), (0, u "I"), (1, u "BYTES"), (1, u "serialVersionUID")] 142

def k22c0 : Code := { maxStack := 4, maxLocals := 3, code := jdk_35_method_24_code, exceptionTable := #[], attributes := #[] }
def k22m0 : Method := { name := "valueOf", desc := "(J)Ljava/lang/Long;", sig := { parameters := [.long], returnType := some (.object "java/lang/Long") }, accessFlags := 9, code := some k22c0 }
def k22c1 : Code := { maxStack := 3, maxLocals := 3, code := jdk_35_method_26_code, exceptionTable := #[], attributes := #[] }
def k22m1 : Method := { name := "<init>", desc := "(J)V", sig := { parameters := [.long], returnType := none }, accessFlags := 1, code := some k22c1 }
def k22c2 : Code := { maxStack := 2, maxLocals := 1, code := jdk_35_method_31_code, exceptionTable := #[], attributes := #[] }
def k22m2 : Method := { name := "longValue", desc := "()J", sig := { parameters := [], returnType := some .long }, accessFlags := 1, code := some k22c2 }
/-- java/lang/Long -/
def k22 : Class := { plain "java/lang/Long" (some 21) with
  accessFlags := 49
  interfaces := #[3, 5, 6]
  cf := some (fileOf pool22 1 #[.nestMembers #[235]] #[{ accessFlags := 9, nameIndex := 85, descriptorIndex := 229, attributes := #[] }, { accessFlags := 1, nameIndex := 59, descriptorIndex := 242, attributes := #[] }, { accessFlags := 1, nameIndex := 282, descriptorIndex := 283, attributes := #[] }] 49 271 #[363, 365, 367] #[{ accessFlags := 25, nameIndex := 369, descriptorIndex := 276, attributes := #[] }, { accessFlags := 25, nameIndex := 371, descriptorIndex := 276, attributes := #[] }, { accessFlags := 25, nameIndex := 361, descriptorIndex := 362, attributes := #[] }, { accessFlags := 18, nameIndex := 275, descriptorIndex := 276, attributes := #[] }, { accessFlags := 25, nameIndex := 376, descriptorIndex := 377, attributes := #[] }, { accessFlags := 25, nameIndex := 379, descriptorIndex := 377, attributes := #[] }, { accessFlags := 26, nameIndex := 381, descriptorIndex := 276, attributes := #[] }])
  fields := #[{ name := "MIN_VALUE", type := .long, accessFlags := 25, slot := 0, constantValue := 0 }, { name := "MAX_VALUE", type := .long, accessFlags := 25, slot := 1, constantValue := 0 }, { name := "TYPE", type := (.object "java/lang/Class"), accessFlags := 25, slot := 2, constantValue := 0 }, { name := "value", type := .long, accessFlags := 18, slot := 0, constantValue := 0 }, { name := "SIZE", type := .int, accessFlags := 25, slot := 3, constantValue := 0 }, { name := "BYTES", type := .int, accessFlags := 25, slot := 4, constantValue := 0 }, { name := "serialVersionUID", type := .long, accessFlags := 26, slot := 5, constantValue := 0 }]
  methods := #[k22m0, k22m1, k22m2]
  instanceTypes := #[.long]
  staticTypes := #[.long, .long, (.object "java/lang/Class"), .int, .int, .long]
  resolved := Array.replicate 524 none
  statics := none }

def pool23 : Array CpInfo := pool [(2, .class_ 4), (1, u "java/lang/Object"), (0, u "<init>"), (0, u "()V"), (0, .class_ 8), (0, u "java/lang/Long"), (7, .class_ 18), (1, u "java/lang/Long$LongCache"), (0, u "$assertionsDisabled"), (0, u "Z"), (8, u "archivedCache"), (0, u "[Ljava/lang/Long;"), (7, u "cache")] 24

def k23m0 : Method := { name := "<init>", desc := "()V", sig := { parameters := [], returnType := none }, accessFlags := 2, code := none }
/-- java/lang/Long$LongCache -/
def k23 : Class := { plain "java/lang/Long$LongCache" (some 0) with
  accessFlags := 48
  interfaces := #[]
  cf := some (fileOf pool23 16 #[.nestHost 7] #[{ accessFlags := 2, nameIndex := 5, descriptorIndex := 6, attributes := #[] }] 48 2 #[] #[{ accessFlags := 24, nameIndex := 38, descriptorIndex := 30, attributes := #[] }, { accessFlags := 8, nameIndex := 29, descriptorIndex := 30, attributes := #[] }, { accessFlags := 4120, nameIndex := 19, descriptorIndex := 20, attributes := #[] }])
  fields := #[{ name := "cache", type := (.array (.object "java/lang/Long")), accessFlags := 24, slot := 0, constantValue := 0 }, { name := "archivedCache", type := (.array (.object "java/lang/Long")), accessFlags := 8, slot := 1, constantValue := 0 }, { name := "$assertionsDisabled", type := .boolean, accessFlags := 4120, slot := 2, constantValue := 0 }]
  methods := #[k23m0]
  instanceTypes := #[]
  staticTypes := #[(.array (.object "java/lang/Long")), (.array (.object "java/lang/Long")), .boolean]
  resolved := Array.replicate 63 none
  statics := some 2 }

def pool24 : Array CpInfo := pool [(1, .class_ 2), (0, u "java/lang/Math"), (1, .class_ 6), (1, u "java/lang/Object"), (0, u "<init>"), (0, u "()V"), (89, .class_ 100), (1, u "java/lang/Math$RandomNumberGeneratorHolder"), (71, u "negativeZeroFloatBits"), (0, u "J"), (2, u "negativeZeroDoubleBits"), (21, u "max"), (46, u "$assertionsDisabled"), (0, u "Z"), (88, u "(II)I"), (2, u "twoToTheDoubleScaleDown"), (0, u "D"), (4, u "twoToTheDoubleScaleUp"), (9, u "E"), (3, u "PI"), (2, u "TAU"), (2, u "DEGREES_TO_RADIANS"), (0, u "RADIANS_TO_DEGREES")] 94

def k24m0 : Method := { name := "<init>", desc := "()V", sig := { parameters := [], returnType := none }, accessFlags := 2, code := none }
def k24c1 : Code := { maxStack := 2, maxLocals := 2, code := jdk_29_method_65_code, exceptionTable := #[], attributes := #[] }
def k24m1 : Method := { name := "max", desc := "(II)I", sig := { parameters := [.int, .int], returnType := some .int }, accessFlags := 9, code := some k24c1 }
/-- java/lang/Math -/
def k24 : Class := { plain "java/lang/Math" (some 0) with
  accessFlags := 49
  interfaces := #[]
  cf := some (fileOf pool24 1 #[.nestMembers #[98]] #[{ accessFlags := 2, nameIndex := 7, descriptorIndex := 8, attributes := #[] }, { accessFlags := 9, nameIndex := 198, descriptorIndex := 335, attributes := #[] }] 49 4 #[] #[{ accessFlags := 25, nameIndex := 354, descriptorIndex := 339, attributes := #[] }, { accessFlags := 25, nameIndex := 358, descriptorIndex := 339, attributes := #[] }, { accessFlags := 25, nameIndex := 361, descriptorIndex := 339, attributes := #[] }, { accessFlags := 26, nameIndex := 364, descriptorIndex := 339, attributes := #[] }, { accessFlags := 26, nameIndex := 365, descriptorIndex := 339, attributes := #[] }, { accessFlags := 26, nameIndex := 172, descriptorIndex := 173, attributes := #[] }, { accessFlags := 26, nameIndex := 176, descriptorIndex := 173, attributes := #[] }, { accessFlags := 8, nameIndex := 344, descriptorIndex := 339, attributes := #[] }, { accessFlags := 8, nameIndex := 338, descriptorIndex := 339, attributes := #[] }, { accessFlags := 4120, nameIndex := 245, descriptorIndex := 246, attributes := #[] }])
  fields := #[{ name := "E", type := .double, accessFlags := 25, slot := 0, constantValue := 0 }, { name := "PI", type := .double, accessFlags := 25, slot := 1, constantValue := 0 }, { name := "TAU", type := .double, accessFlags := 25, slot := 2, constantValue := 0 }, { name := "DEGREES_TO_RADIANS", type := .double, accessFlags := 26, slot := 3, constantValue := 0 }, { name := "RADIANS_TO_DEGREES", type := .double, accessFlags := 26, slot := 4, constantValue := 0 }, { name := "negativeZeroFloatBits", type := .long, accessFlags := 26, slot := 5, constantValue := 0 }, { name := "negativeZeroDoubleBits", type := .long, accessFlags := 26, slot := 6, constantValue := 0 }, { name := "twoToTheDoubleScaleUp", type := .double, accessFlags := 8, slot := 7, constantValue := 0 }, { name := "twoToTheDoubleScaleDown", type := .double, accessFlags := 8, slot := 8, constantValue := 0 }, { name := "$assertionsDisabled", type := .boolean, accessFlags := 4120, slot := 9, constantValue := 0 }]
  methods := #[k24m0, k24m1]
  instanceTypes := #[]
  staticTypes := #[.double, .double, .double, .double, .double, .long, .long, .double, .double, .boolean]
  resolved := Array.replicate 460 none
  statics := none }

def pool25 : Array CpInfo := pool [(2, .class_ 4), (1, u "java/lang/Object"), (0, u "<init>"), (0, u "()V"), (1, .class_ 10), (1, u "java/util/List"), (2, .class_ 14), (0, u "java/util/RandomAccess"), (4, .class_ 20), (0, u "java/util/Collections"), (63, u "r"), (0, u "Ljava/util/Random;"), (67, u "(Ljava/util/List;)V"), (9, .nameAndType 164 165), (0, u "getClass"), (0, u "()Ljava/lang/Class;"), (0, .class_ 167), (0, u "java/util/Collections$UnmodifiableCollection"), (6, .class_ 175), (0, u "java/util/Collections$UnmodifiableSequencedCollection"), (6, .class_ 183), (0, u "java/util/Collections$UnmodifiableSet"), (6, .class_ 191), (0, u "java/util/Collections$UnmodifiableSequencedSet"), (6, .class_ 199), (0, u "java/util/Collections$UnmodifiableSortedSet"), (6, .class_ 207), (0, u "java/util/Collections$UnmodifiableNavigableSet"), (3, .interfaceMethodref 8 163), (0, .class_ 213), (0, u "java/util/Collections$UnmodifiableList"), (0, .interfaceMethodref 8 163), (0, .class_ 216), (0, u "java/util/Collections$UnmodifiableRandomAccessList"), (0, .methodref 215 218), (0, .nameAndType 5 153), (4, .class_ 224), (0, u "java/util/Collections$UnmodifiableMap"), (6, .class_ 232), (0, u "java/util/Collections$UnmodifiableSequencedMap"), (4, .class_ 238), (0, u "java/util/Collections$UnmodifiableSortedMap"), (6, .class_ 246), (0, u "java/util/Collections$UnmodifiableNavigableMap"), (3, .class_ 251), (0, u "java/util/Collections$SynchronizedCollection"), (4, .class_ 257), (0, u "java/util/Collections$SynchronizedSet"), (4, .class_ 263), (0, u "java/util/Collections$SynchronizedSortedSet"), (1, .class_ 266), (0, u "java/util/Collections$SynchronizedNavigableSet"), (1, .class_ 269), (0, u "java/util/Collections$SynchronizedRandomAccessList"), (1, .class_ 272), (0, u "java/util/Collections$SynchronizedList"), (5, .class_ 279), (0, u "java/util/Collections$SynchronizedMap"), (1, .class_ 282), (0, u "java/util/Collections$SynchronizedSortedMap"), (1, .class_ 285), (0, u "java/util/Collections$SynchronizedNavigableMap"), (1, .class_ 288), (0, u "java/util/Collections$CheckedCollection"), (11, .class_ 301), (0, u "java/util/Collections$CheckedQueue"), (3, .class_ 306), (0, u "java/util/Collections$CheckedSet"), (3, .class_ 311), (0, u "java/util/Collections$CheckedSortedSet"), (3, .class_ 316), (0, u "java/util/Collections$CheckedNavigableSet"), (3, .class_ 321), (0, u "java/util/Collections$CheckedRandomAccessList"), (3, .class_ 326), (0, u "java/util/Collections$CheckedList"), (1, .class_ 329), (0, u "java/util/Collections$CheckedMap"), (3, .class_ 334), (0, u "java/util/Collections$CheckedSortedMap"), (3, .class_ 339), (0, u "java/util/Collections$CheckedNavigableMap"), (4, .class_ 346), (1, u "java/util/Collections$EmptyIterator"), (3, .class_ 352), (1, u "java/util/Collections$EmptyListIterator"), (2, .class_ 357), (1, u "java/util/Collections$EmptyEnumeration"), (4, u "EMPTY_SET"), (0, u "Ljava/util/Set;"), (6, u "EMPTY_LIST"), (0, u "Ljava/util/List;"), (2, u "EMPTY_MAP"), (0, u "Ljava/util/Map;"), (4, .class_ 381), (0, u "java/util/Collections$SingletonSet"), (2, .class_ 385), (0, u "java/util/Collections$1"), (1, .class_ 388), (0, u "java/util/Collections$2"), (1, .class_ 391), (0, u "java/util/Collections$SingletonList"), (1, .class_ 394), (0, u "java/util/Collections$SingletonMap"), (22, .class_ 418), (0, u "java/util/Collections$CopiesList"), (4, .class_ 425), (1, u "java/util/Collections$ReverseComparator"), (8, .class_ 435), (0, u "java/util/Collections$ReverseComparator2"), (6, .class_ 443), (0, u "java/util/Collections$3"), (25, .class_ 470), (0, u "java/util/Collections$SetFromMap"), (2, .class_ 474), (0, u "java/util/Collections$SequencedSetFromMap"), (3, .class_ 479), (0, u "java/util/Collections$AsLIFOQueue"), (11, .class_ 492), (0, u "java/util/Collections$EmptySet"), (1, .class_ 495), (0, u "java/util/Collections$EmptyList"), (1, .class_ 498), (0, u "java/util/Collections$EmptyMap"), (1, u "BINARYSEARCH_THRESHOLD"), (0, u "I"), (2, u "REVERSE_THRESHOLD"), (1, u "SHUFFLE_THRESHOLD"), (1, u "FILL_THRESHOLD"), (1, u "ROTATE_THRESHOLD"), (1, u "COPY_THRESHOLD"), (1, u "REPLACEALL_THRESHOLD"), (1, u "INDEXOFSUBLIST_THRESHOLD"), (129, u "unmodifiableList"), (0, u "(Ljava/util/List;)Ljava/util/List;"), (202, .class_ 851), (0, u "java/util/Collections$CheckedMap$CheckedEntrySet"), (0, .class_ 853), (0, u "java/util/Collections$CheckedMap$CheckedEntrySet$CheckedEntry"), (0, .class_ 855), (0, u "java/util/Collections$CheckedMap$CheckedEntrySet$1"), (0, .class_ 857), (0, u "java/util/Collections$CheckedList$1"), (0, .class_ 859), (0, u "java/util/Collections$CheckedCollection$1"), (0, .class_ 861), (0, u "java/util/Collections$UnmodifiableNavigableMap$EmptyNavigableMap"), (0, .class_ 863), (0, u "java/util/Collections$UnmodifiableMap$UnmodifiableEntrySet"), (0, .class_ 865), (0, u "java/util/Collections$UnmodifiableMap$UnmodifiableEntrySet$UnmodifiableEntry"), (0, .class_ 867), (0, u "java/util/Collections$UnmodifiableMap$UnmodifiableEntrySet$UnmodifiableEntrySetSpliterator"), (0, .class_ 869), (0, u "java/util/Collections$UnmodifiableMap$UnmodifiableEntrySet$1"), (0, .class_ 871), (0, u "java/util/Collections$UnmodifiableList$1"), (0, .class_ 873), (0, u "java/util/Collections$UnmodifiableNavigableSet$EmptyNavigableSet"), (0, .class_ 875), (0, u "java/util/Collections$UnmodifiableCollection$1")] 57

def k25m0 : Method := { name := "<init>", desc := "()V", sig := { parameters := [], returnType := none }, accessFlags := 2, code := none }
def k25c1 : Code := { maxStack := 3, maxLocals := 1, code := jdk_79_method_35_code, exceptionTable := #[], attributes := #[] }
def k25m1 : Method := { name := "unmodifiableList", desc := "(Ljava/util/List;)Ljava/util/List;", sig := { parameters := [(.object "java/util/List")], returnType := some (.object "java/util/List") }, accessFlags := 9, code := some k25c1 }
/-- java/util/Collections -/
def k25 : Class := { plain "java/util/Collections" (some 0) with
  accessFlags := 33
  interfaces := #[]
  cf := some (fileOf pool25 19 #[.nestMembers #[478, 473, 469, 434, 423, 417, 393, 390, 380, 497, 494, 491, 355, 350, 344, 338, 333, 328, 850, 852, 854, 320, 325, 856, 315, 310, 305, 300, 287, 858, 284, 281, 278, 268, 271, 265, 262, 256, 250, 245, 860, 237, 231, 223, 862, 864, 866, 868, 215, 212, 870, 206, 872, 198, 190, 182, 174, 166, 874, 442, 387, 384]] #[{ accessFlags := 2, nameIndex := 5, descriptorIndex := 6, attributes := #[] }, { accessFlags := 9, nameIndex := 646, descriptorIndex := 647, attributes := #[] }] 33 2 #[] #[{ accessFlags := 26, nameIndex := 500, descriptorIndex := 501, attributes := #[] }, { accessFlags := 26, nameIndex := 504, descriptorIndex := 501, attributes := #[] }, { accessFlags := 26, nameIndex := 506, descriptorIndex := 501, attributes := #[] }, { accessFlags := 26, nameIndex := 508, descriptorIndex := 501, attributes := #[] }, { accessFlags := 26, nameIndex := 510, descriptorIndex := 501, attributes := #[] }, { accessFlags := 26, nameIndex := 512, descriptorIndex := 501, attributes := #[] }, { accessFlags := 26, nameIndex := 514, descriptorIndex := 501, attributes := #[] }, { accessFlags := 26, nameIndex := 516, descriptorIndex := 501, attributes := #[] }, { accessFlags := 10, nameIndex := 84, descriptorIndex := 85, attributes := #[] }, { accessFlags := 25, nameIndex := 362, descriptorIndex := 363, attributes := #[] }, { accessFlags := 25, nameIndex := 370, descriptorIndex := 371, attributes := #[] }, { accessFlags := 25, nameIndex := 374, descriptorIndex := 375, attributes := #[] }])
  fields := #[{ name := "BINARYSEARCH_THRESHOLD", type := .int, accessFlags := 26, slot := 0, constantValue := 0 }, { name := "REVERSE_THRESHOLD", type := .int, accessFlags := 26, slot := 1, constantValue := 0 }, { name := "SHUFFLE_THRESHOLD", type := .int, accessFlags := 26, slot := 2, constantValue := 0 }, { name := "FILL_THRESHOLD", type := .int, accessFlags := 26, slot := 3, constantValue := 0 }, { name := "ROTATE_THRESHOLD", type := .int, accessFlags := 26, slot := 4, constantValue := 0 }, { name := "COPY_THRESHOLD", type := .int, accessFlags := 26, slot := 5, constantValue := 0 }, { name := "REPLACEALL_THRESHOLD", type := .int, accessFlags := 26, slot := 6, constantValue := 0 }, { name := "INDEXOFSUBLIST_THRESHOLD", type := .int, accessFlags := 26, slot := 7, constantValue := 0 }, { name := "r", type := (.object "java/util/Random"), accessFlags := 10, slot := 8, constantValue := 0 }, { name := "EMPTY_SET", type := (.object "java/util/Set"), accessFlags := 25, slot := 9, constantValue := 0 }, { name := "EMPTY_LIST", type := (.object "java/util/List"), accessFlags := 25, slot := 10, constantValue := 0 }, { name := "EMPTY_MAP", type := (.object "java/util/Map"), accessFlags := 25, slot := 11, constantValue := 0 }]
  methods := #[k25m0, k25m1]
  instanceTypes := #[]
  staticTypes := #[.int, .int, .int, .int, .int, .int, .int, .int, (.object "java/util/Random"), (.object "java/util/Set"), (.object "java/util/List"), (.object "java/util/Map")]
  resolved := Array.replicate 933 none
  statics := none }

def pool26 : Array CpInfo := pool [(1, .methodref 2 3), (0, .class_ 4), (0, .nameAndType 5 6), (0, u "java/lang/Object"), (0, u "<init>"), (0, u "()V"), (3, .fieldref 11 12), (0, .class_ 13), (0, .nameAndType 14 15), (0, u "java/util/Collections$UnmodifiableCollection"), (0, u "c"), (0, u "Ljava/util/Collection;"), (0, .interfaceMethodref 17 18), (0, .class_ 19), (0, .nameAndType 20 21), (0, u "java/util/Collection"), (0, u "size"), (0, u "()I"), (49, .class_ 72), (0, u "java/io/Serializable"), (0, u "serialVersionUID"), (0, u "J"), (5, u "(Ljava/util/Collection;)V"), (51, .class_ 133), (0, u "java/util/Collections")] 2

def k26c0 : Code := { maxStack := 2, maxLocals := 2, code := jdk_119_method_1_code, exceptionTable := #[], attributes := #[] }
def k26m0 : Method := { name := "<init>", desc := "(Ljava/util/Collection;)V", sig := { parameters := [(.object "java/util/Collection")], returnType := none }, accessFlags := 0, code := some k26c0 }
def k26c1 : Code := { maxStack := 1, maxLocals := 1, code := jdk_119_method_2_code, exceptionTable := #[], attributes := #[] }
def k26m1 : Method := { name := "size", desc := "()I", sig := { parameters := [], returnType := some .int }, accessFlags := 1, code := some k26c1 }
/-- java/util/Collections$UnmodifiableCollection -/
def k26 : Class := { plain "java/util/Collections$UnmodifiableCollection" (some 0) with
  accessFlags := 32
  interfaces := #[11, 2]
  cf := some (fileOf pool26 11 #[.nestHost 132] #[{ accessFlags := 0, nameIndex := 5, descriptorIndex := 80, attributes := #[] }, { accessFlags := 1, nameIndex := 20, descriptorIndex := 21, attributes := #[] }] 32 2 #[17, 71] #[{ accessFlags := 26, nameIndex := 73, descriptorIndex := 74, attributes := #[] }, { accessFlags := 16, nameIndex := 14, descriptorIndex := 15, attributes := #[] }])
  fields := #[{ name := "serialVersionUID", type := .long, accessFlags := 26, slot := 0, constantValue := 0 }, { name := "c", type := (.object "java/util/Collection"), accessFlags := 16, slot := 0, constantValue := 0 }]
  methods := #[k26m0, k26m1]
  instanceTypes := #[(.object "java/util/Collection")]
  staticTypes := #[.long]
  resolved := Array.replicate 136 none
  statics := none }

def pool27 : Array CpInfo := pool [(1, .methodref 2 3), (0, .class_ 4), (0, .nameAndType 5 6), (0, u "java/util/Collections$UnmodifiableCollection"), (0, u "<init>"), (0, u "(Ljava/util/Collection;)V"), (0, .fieldref 8 9), (0, .class_ 10), (0, .nameAndType 11 12), (0, u "java/util/Collections$UnmodifiableList"), (0, u "list"), (0, u "Ljava/util/List;"), (1, .class_ 16), (1, u "java/util/List"), (6, .interfaceMethodref 14 24), (0, .nameAndType 25 26), (0, u "get"), (0, u "(I)Ljava/lang/Object;"), (27, u "(Ljava/util/List;)V"), (5, u "serialVersionUID"), (0, u "J"), (59, .class_ 122), (0, u "java/util/Collections")] 4

def k27c0 : Code := { maxStack := 2, maxLocals := 2, code := jdk_120_method_1_code, exceptionTable := #[], attributes := #[] }
def k27m0 : Method := { name := "<init>", desc := "(Ljava/util/List;)V", sig := { parameters := [(.object "java/util/List")], returnType := none }, accessFlags := 0, code := some k27c0 }
def k27c1 : Code := { maxStack := 2, maxLocals := 2, code := jdk_120_method_4_code, exceptionTable := #[], attributes := #[] }
def k27m1 : Method := { name := "get", desc := "(I)Ljava/lang/Object;", sig := { parameters := [.int], returnType := some (.object "java/lang/Object") }, accessFlags := 1, code := some k27c1 }
/-- java/util/Collections$UnmodifiableList -/
def k27 : Class := { plain "java/util/Collections$UnmodifiableList" (some 26) with
  accessFlags := 32
  interfaces := #[14]
  cf := some (fileOf pool27 8 #[.nestHost 121] #[{ accessFlags := 0, nameIndex := 5, descriptorIndex := 54, attributes := #[] }, { accessFlags := 1, nameIndex := 25, descriptorIndex := 26, attributes := #[] }] 32 2 #[14] #[{ accessFlags := 26, nameIndex := 60, descriptorIndex := 61, attributes := #[] }, { accessFlags := 16, nameIndex := 11, descriptorIndex := 12, attributes := #[] }])
  fields := #[{ name := "serialVersionUID", type := .long, accessFlags := 26, slot := 0, constantValue := 0 }, { name := "list", type := (.object "java/util/List"), accessFlags := 16, slot := 1, constantValue := 0 }]
  methods := #[k27m0, k27m1]
  instanceTypes := #[(.object "java/util/Collection"), (.object "java/util/List")]
  staticTypes := #[.long]
  resolved := Array.replicate 127 none
  mirror := some 5
  statics := none }

def pool28 : Array CpInfo := pool [(1, .methodref 2 3), (0, .class_ 4), (0, .nameAndType 5 6), (0, u "java/util/Collections$UnmodifiableList"), (0, u "<init>"), (0, u "(Ljava/util/List;)V"), (0, .class_ 8), (0, u "java/util/Collections$UnmodifiableRandomAccessList"), (11, .class_ 21), (0, u "java/util/RandomAccess"), (0, u "serialVersionUID"), (0, u "J"), (23, .class_ 48), (0, u "java/util/Collections")] 3

def k28c0 : Code := { maxStack := 2, maxLocals := 2, code := jdk_121_method_1_code, exceptionTable := #[], attributes := #[] }
def k28m0 : Method := { name := "<init>", desc := "(Ljava/util/List;)V", sig := { parameters := [(.object "java/util/List")], returnType := none }, accessFlags := 0, code := some k28c0 }
/-- java/util/Collections$UnmodifiableRandomAccessList -/
def k28 : Class := { plain "java/util/Collections$UnmodifiableRandomAccessList" (some 27) with
  accessFlags := 32
  interfaces := #[16]
  cf := some (fileOf pool28 7 #[.nestHost 47] #[{ accessFlags := 0, nameIndex := 5, descriptorIndex := 6, attributes := #[] }] 32 2 #[20] #[{ accessFlags := 26, nameIndex := 22, descriptorIndex := 23, attributes := #[] }])
  fields := #[{ name := "serialVersionUID", type := .long, accessFlags := 26, slot := 0, constantValue := 0 }]
  methods := #[k28m0]
  instanceTypes := #[(.object "java/util/Collection"), (.object "java/util/List")]
  staticTypes := #[.long]
  resolved := Array.replicate 52 none
  mirror := some 6
  statics := none }

def pool29 : Array CpInfo := pool [(2, .class_ 4), (1, u "java/lang/Object"), (0, u "<init>"), (0, u "()V"), (35, .class_ 44), (1, u "java/util/Objects"), (60, .methodref 106 107), (0, .class_ 108), (0, .nameAndType 109 110), (0, u "jdk/internal/util/Preconditions"), (0, u "checkIndex"), (0, u "(IILjava/util/function/BiFunction;)I"), (60, u "(II)I")] 12

def k29m0 : Method := { name := "<init>", desc := "()V", sig := { parameters := [], returnType := none }, accessFlags := 2, code := none }
def k29c1 : Code := { maxStack := 3, maxLocals := 2, code := jdk_31_method_17_code, exceptionTable := #[], attributes := #[] }
def k29m1 : Method := { name := "checkIndex", desc := "(II)I", sig := { parameters := [.int, .int], returnType := some .int }, accessFlags := 9, code := some k29c1 }
/-- java/util/Objects -/
def k29 : Class := { plain "java/util/Objects" (some 0) with
  accessFlags := 49
  interfaces := #[]
  cf := some (fileOf pool29 42 #[] #[{ accessFlags := 2, nameIndex := 5, descriptorIndex := 6, attributes := #[] }, { accessFlags := 9, nameIndex := 109, descriptorIndex := 171, attributes := #[] }] 49 2 #[] #[])
  fields := #[]
  methods := #[k29m0, k29m1]
  instanceTypes := #[]
  staticTypes := #[]
  resolved := Array.replicate 184 none
  statics := none }

def pool30 : Array CpInfo := pool [(2, .class_ 4), (1, u "java/lang/Object"), (0, u "<init>"), (0, u "()V"), (17, .class_ 26), (1, u "jdk/internal/util/Preconditions"), (6, u "checkIndex"), (21, .class_ 56), (0, u "jdk/internal/util/Preconditions$4"), (57, .class_ 115), (0, u "jdk/internal/util/Preconditions$1"), (7, u "SIOOBE_FORMATTER"), (0, u "Ljava/util/function/BiFunction;"), (0, .class_ 126), (0, u "jdk/internal/util/Preconditions$2"), (3, u "AIOOBE_FORMATTER"), (0, .class_ 132), (0, u "jdk/internal/util/Preconditions$3"), (3, u "IOOBE_FORMATTER"), (41, u "(IILjava/util/function/BiFunction;)I")] 15

def k30m0 : Method := { name := "<init>", desc := "()V", sig := { parameters := [], returnType := none }, accessFlags := 1, code := none }
def k30c1 : Code := { maxStack := 3, maxLocals := 3, code := jdk_41_method_11_code, exceptionTable := #[], attributes := #[] }
def k30m1 : Method := { name := "checkIndex", desc := "(IILjava/util/function/BiFunction;)I", sig := { parameters := [.int, .int, (.object "java/util/function/BiFunction")], returnType := some .int }, accessFlags := 9, code := some k30c1 }
/-- jdk/internal/util/Preconditions -/
def k30 : Class := { plain "jdk/internal/util/Preconditions" (some 0) with
  accessFlags := 33
  interfaces := #[]
  cf := some (fileOf pool30 24 #[.nestMembers #[55, 131, 125, 114]] #[{ accessFlags := 1, nameIndex := 5, descriptorIndex := 6, attributes := #[] }, { accessFlags := 9, nameIndex := 33, descriptorIndex := 178, attributes := #[] }] 33 2 #[] #[{ accessFlags := 25, nameIndex := 123, descriptorIndex := 124, attributes := #[] }, { accessFlags := 25, nameIndex := 130, descriptorIndex := 124, attributes := #[] }, { accessFlags := 25, nameIndex := 136, descriptorIndex := 124, attributes := #[] }])
  fields := #[{ name := "SIOOBE_FORMATTER", type := (.object "java/util/function/BiFunction"), accessFlags := 25, slot := 0, constantValue := 0 }, { name := "AIOOBE_FORMATTER", type := (.object "java/util/function/BiFunction"), accessFlags := 25, slot := 1, constantValue := 0 }, { name := "IOOBE_FORMATTER", type := (.object "java/util/function/BiFunction"), accessFlags := 25, slot := 2, constantValue := 0 }]
  methods := #[k30m0, k30m1]
  instanceTypes := #[]
  staticTypes := #[(.object "java/util/function/BiFunction"), (.object "java/util/function/BiFunction"), (.object "java/util/function/BiFunction")]
  resolved := Array.replicate 194 none
  statics := some 3 }

def pool31 : Array CpInfo := pool [(6, .class_ 8), (1, u "java/lang/Object"), (0, u "<init>"), (0, u "()V"), (1, .class_ 14), (1, u "java/lang/StringUTF16"), (31, u "$assertionsDisabled"), (0, u "Z"), (13, u "HI_BYTE_SHIFT"), (0, u "I"), (2, u "LO_BYTE_SHIFT"), (49, .methodref 12 116), (0, .nameAndType 117 118), (0, u "compress"), (0, u "([CI[BII)I"), (3, u "([CII)[B"), (138, u "coderFromArrayLen"), (0, u "([BI)B"), (106, .class_ 371), (1, u "java/lang/StringUTF16$LinesSpliterator"), (58, u "MAX_LENGTH"), (196, .class_ 628), (0, u "java/lang/StringUTF16$CodePointsSpliterator"), (0, .class_ 630), (0, u "java/lang/StringUTF16$CharsSpliterator")] 4

def k31m0 : Method := { name := "<init>", desc := "()V", sig := { parameters := [], returnType := none }, accessFlags := 0, code := none }
def k31c1 : Code := { maxStack := 2, maxLocals := 2, code := jdk_52_method_15_code, exceptionTable := #[], attributes := #[] }
def k31m1 : Method := { name := "coderFromArrayLen", desc := "([BI)B", sig := { parameters := [(.array .byte), .int], returnType := some .byte }, accessFlags := 8, code := some k31c1 }
def k31c2 : Code := { maxStack := 5, maxLocals := 6, code := jdk_52_method_16_code, exceptionTable := #[], attributes := #[] }
def k31m2 : Method := { name := "compress", desc := "([CII)[B", sig := { parameters := [(.array .char), .int, .int], returnType := some (.array .byte) }, accessFlags := 9, code := some k31c2 }
def k31c3 : Code := { maxStack := 3, maxLocals := 7, code := jdk_52_method_21_code, exceptionTable := #[], attributes := #[] }
def k31m3 : Method := { name := "compress", desc := "([CI[BII)I", sig := { parameters := [(.array .char), .int, (.array .byte), .int, .int], returnType := some .int }, accessFlags := 9, code := some k31c3 }
/-- java/lang/StringUTF16 -/
def k31 : Class := { plain "java/lang/StringUTF16" (some 0) with
  accessFlags := 48
  interfaces := #[]
  cf := some (fileOf pool31 12 #[.nestMembers #[627, 629, 369]] #[{ accessFlags := 0, nameIndex := 9, descriptorIndex := 10, attributes := #[] }, { accessFlags := 8, nameIndex := 261, descriptorIndex := 262, attributes := #[] }, { accessFlags := 9, nameIndex := 117, descriptorIndex := 122, attributes := #[] }, { accessFlags := 9, nameIndex := 117, descriptorIndex := 118, attributes := #[] }] 48 6 #[] #[{ accessFlags := 26, nameIndex := 61, descriptorIndex := 62, attributes := #[] }, { accessFlags := 26, nameIndex := 65, descriptorIndex := 62, attributes := #[] }, { accessFlags := 24, nameIndex := 430, descriptorIndex := 62, attributes := #[] }, { accessFlags := 4120, nameIndex := 46, descriptorIndex := 47, attributes := #[] }])
  fields := #[{ name := "HI_BYTE_SHIFT", type := .int, accessFlags := 26, slot := 0, constantValue := 0 }, { name := "LO_BYTE_SHIFT", type := .int, accessFlags := 26, slot := 1, constantValue := 0 }, { name := "MAX_LENGTH", type := .int, accessFlags := 24, slot := 2, constantValue := 0 }, { name := "$assertionsDisabled", type := .boolean, accessFlags := 4120, slot := 3, constantValue := 0 }]
  methods := #[k31m0, k31m1, k31m2, k31m3]
  instanceTypes := #[]
  staticTypes := #[.int, .int, .int, .boolean]
  resolved := Array.replicate 635 none
  statics := none }

def pool32 : Array CpInfo := pool [(1, .class_ 2), (0, u "java/lang/Double"), (17, u "<init>"), (84, .methodref 1 106), (0, .nameAndType 20 107), (0, u "(D)V"), (5, .methodref 114 115), (0, .class_ 116), (0, .nameAndType 20 117), (0, u "java/lang/Number"), (0, u "()V"), (0, .fieldref 1 119), (0, .nameAndType 120 121), (0, u "value"), (0, u "D"), (51, u "TYPE"), (0, u "Ljava/lang/Class;"), (0, .class_ 176), (0, u "java/lang/Comparable"), (0, .class_ 178), (0, u "java/lang/constant/Constable"), (0, .class_ 180), (0, u "java/lang/constant/ConstantDesc"), (0, u "POSITIVE_INFINITY"), (3, u "NEGATIVE_INFINITY"), (2, u "NaN"), (2, u "MAX_VALUE"), (0, u "MIN_NORMAL"), (0, u "MIN_VALUE"), (2, u "SIZE"), (0, u "I"), (1, u "PRECISION"), (1, u "MAX_EXPONENT"), (1, u "MIN_EXPONENT"), (1, u "BYTES"), (3, u "serialVersionUID"), (0, u "J"), (14, u "valueOf"), (5, u "(D)Ljava/lang/Double;")] 58

def k32c0 : Code := { maxStack := 4, maxLocals := 2, code := jdk_117_method_4_code, exceptionTable := #[], attributes := #[] }
def k32m0 : Method := { name := "valueOf", desc := "(D)Ljava/lang/Double;", sig := { parameters := [.double], returnType := some (.object "java/lang/Double") }, accessFlags := 9, code := some k32c0 }
def k32c1 : Code := { maxStack := 3, maxLocals := 3, code := jdk_117_method_9_code, exceptionTable := #[], attributes := #[] }
def k32m1 : Method := { name := "<init>", desc := "(D)V", sig := { parameters := [.double], returnType := none }, accessFlags := 1, code := some k32c1 }
/-- java/lang/Double -/
def k32 : Class := { plain "java/lang/Double" (some 21) with
  accessFlags := 49
  interfaces := #[3, 5, 6]
  cf := some (fileOf pool32 1 #[] #[{ accessFlags := 9, nameIndex := 225, descriptorIndex := 231, attributes := #[] }, { accessFlags := 1, nameIndex := 20, descriptorIndex := 107, attributes := #[] }] 49 114 #[175, 177, 179] #[{ accessFlags := 25, nameIndex := 181, descriptorIndex := 121, attributes := #[] }, { accessFlags := 25, nameIndex := 185, descriptorIndex := 121, attributes := #[] }, { accessFlags := 25, nameIndex := 188, descriptorIndex := 121, attributes := #[] }, { accessFlags := 25, nameIndex := 191, descriptorIndex := 121, attributes := #[] }, { accessFlags := 25, nameIndex := 192, descriptorIndex := 121, attributes := #[] }, { accessFlags := 25, nameIndex := 193, descriptorIndex := 121, attributes := #[] }, { accessFlags := 25, nameIndex := 196, descriptorIndex := 197, attributes := #[] }, { accessFlags := 25, nameIndex := 199, descriptorIndex := 197, attributes := #[] }, { accessFlags := 25, nameIndex := 201, descriptorIndex := 197, attributes := #[] }, { accessFlags := 25, nameIndex := 203, descriptorIndex := 197, attributes := #[] }, { accessFlags := 25, nameIndex := 205, descriptorIndex := 197, attributes := #[] }, { accessFlags := 25, nameIndex := 173, descriptorIndex := 174, attributes := #[] }, { accessFlags := 18, nameIndex := 120, descriptorIndex := 121, attributes := #[] }, { accessFlags := 26, nameIndex := 209, descriptorIndex := 210, attributes := #[] }])
  fields := #[{ name := "POSITIVE_INFINITY", type := .double, accessFlags := 25, slot := 0, constantValue := 0 }, { name := "NEGATIVE_INFINITY", type := .double, accessFlags := 25, slot := 1, constantValue := 0 }, { name := "NaN", type := .double, accessFlags := 25, slot := 2, constantValue := 0 }, { name := "MAX_VALUE", type := .double, accessFlags := 25, slot := 3, constantValue := 0 }, { name := "MIN_NORMAL", type := .double, accessFlags := 25, slot := 4, constantValue := 0 }, { name := "MIN_VALUE", type := .double, accessFlags := 25, slot := 5, constantValue := 0 }, { name := "SIZE", type := .int, accessFlags := 25, slot := 6, constantValue := 0 }, { name := "PRECISION", type := .int, accessFlags := 25, slot := 7, constantValue := 0 }, { name := "MAX_EXPONENT", type := .int, accessFlags := 25, slot := 8, constantValue := 0 }, { name := "MIN_EXPONENT", type := .int, accessFlags := 25, slot := 9, constantValue := 0 }, { name := "BYTES", type := .int, accessFlags := 25, slot := 10, constantValue := 0 }, { name := "TYPE", type := (.object "java/lang/Class"), accessFlags := 25, slot := 11, constantValue := 0 }, { name := "value", type := .double, accessFlags := 18, slot := 0, constantValue := 0 }, { name := "serialVersionUID", type := .long, accessFlags := 26, slot := 12, constantValue := 0 }]
  methods := #[k32m0, k32m1]
  instanceTypes := #[.double]
  staticTypes := #[.double, .double, .double, .double, .double, .double, .int, .int, .int, .int, .int, (.object "java/lang/Class"), .long]
  resolved := Array.replicate 290 none
  statics := none }

def pool33 : Array CpInfo := pool [(9, u "<init>"), (6, .class_ 18), (1, u "java/lang/Object"), (0, u "()V"), (1, .class_ 23), (1, u "jdk/internal/util/ArraysSupport"), (0, u "LOG2_ARRAY_LONG_INDEX_SCALE"), (0, u "I"), (2, u "U"), (0, u "Ljdk/internal/misc/Unsafe;"), (8, u "BIG_ENDIAN"), (0, u "Z"), (8, u "LOG2_BYTE_BIT_SIZE"), (4, u "LOG2_ARRAY_INT_INDEX_SCALE"), (54, u "JLA"), (0, u "Ljdk/internal/access/JavaLangAccess;"), (11, u "LOG2_ARRAY_BOOLEAN_INDEX_SCALE"), (9, u "LOG2_ARRAY_BYTE_INDEX_SCALE"), (5, u "LOG2_ARRAY_CHAR_INDEX_SCALE"), (5, u "LOG2_ARRAY_SHORT_INDEX_SCALE"), (18, u "LOG2_ARRAY_FLOAT_INDEX_SCALE"), (24, u "LOG2_ARRAY_DOUBLE_INDEX_SCALE"), (89, u "T_BOOLEAN"), (2, u "T_CHAR"), (1, u "T_FLOAT"), (1, u "T_DOUBLE"), (1, u "T_BYTE"), (1, u "T_SHORT"), (1, u "T_INT"), (1, u "T_LONG"), (1, u "SOFT_MAX_ARRAY_LENGTH")] 83

def k33m0 : Method := { name := "<init>", desc := "()V", sig := { parameters := [], returnType := none }, accessFlags := 2, code := none }
/-- jdk/internal/util/ArraysSupport -/
def k33 : Class := { plain "jdk/internal/util/ArraysSupport" (some 0) with
  accessFlags := 33
  interfaces := #[]
  cf := some (fileOf pool33 21 #[] #[{ accessFlags := 2, nameIndex := 9, descriptorIndex := 19, attributes := #[] }] 33 16 #[] #[{ accessFlags := 24, nameIndex := 28, descriptorIndex := 29, attributes := #[] }, { accessFlags := 26, nameIndex := 38, descriptorIndex := 39, attributes := #[] }, { accessFlags := 25, nameIndex := 121, descriptorIndex := 25, attributes := #[] }, { accessFlags := 25, nameIndex := 131, descriptorIndex := 25, attributes := #[] }, { accessFlags := 25, nameIndex := 137, descriptorIndex := 25, attributes := #[] }, { accessFlags := 25, nameIndex := 143, descriptorIndex := 25, attributes := #[] }, { accessFlags := 25, nameIndex := 53, descriptorIndex := 25, attributes := #[] }, { accessFlags := 25, nameIndex := 24, descriptorIndex := 25, attributes := #[] }, { accessFlags := 25, nameIndex := 162, descriptorIndex := 25, attributes := #[] }, { accessFlags := 25, nameIndex := 187, descriptorIndex := 25, attributes := #[] }, { accessFlags := 26, nameIndex := 48, descriptorIndex := 25, attributes := #[] }, { accessFlags := 25, nameIndex := 277, descriptorIndex := 25, attributes := #[] }, { accessFlags := 25, nameIndex := 280, descriptorIndex := 25, attributes := #[] }, { accessFlags := 25, nameIndex := 282, descriptorIndex := 25, attributes := #[] }, { accessFlags := 25, nameIndex := 284, descriptorIndex := 25, attributes := #[] }, { accessFlags := 25, nameIndex := 286, descriptorIndex := 25, attributes := #[] }, { accessFlags := 25, nameIndex := 288, descriptorIndex := 25, attributes := #[] }, { accessFlags := 25, nameIndex := 290, descriptorIndex := 25, attributes := #[] }, { accessFlags := 25, nameIndex := 292, descriptorIndex := 25, attributes := #[] }, { accessFlags := 26, nameIndex := 108, descriptorIndex := 109, attributes := #[] }, { accessFlags := 25, nameIndex := 294, descriptorIndex := 25, attributes := #[] }])
  fields := #[{ name := "U", type := (.object "jdk/internal/misc/Unsafe"), accessFlags := 24, slot := 0, constantValue := 0 }, { name := "BIG_ENDIAN", type := .boolean, accessFlags := 26, slot := 1, constantValue := 0 }, { name := "LOG2_ARRAY_BOOLEAN_INDEX_SCALE", type := .int, accessFlags := 25, slot := 2, constantValue := 0 }, { name := "LOG2_ARRAY_BYTE_INDEX_SCALE", type := .int, accessFlags := 25, slot := 3, constantValue := 0 }, { name := "LOG2_ARRAY_CHAR_INDEX_SCALE", type := .int, accessFlags := 25, slot := 4, constantValue := 0 }, { name := "LOG2_ARRAY_SHORT_INDEX_SCALE", type := .int, accessFlags := 25, slot := 5, constantValue := 0 }, { name := "LOG2_ARRAY_INT_INDEX_SCALE", type := .int, accessFlags := 25, slot := 6, constantValue := 0 }, { name := "LOG2_ARRAY_LONG_INDEX_SCALE", type := .int, accessFlags := 25, slot := 7, constantValue := 0 }, { name := "LOG2_ARRAY_FLOAT_INDEX_SCALE", type := .int, accessFlags := 25, slot := 8, constantValue := 0 }, { name := "LOG2_ARRAY_DOUBLE_INDEX_SCALE", type := .int, accessFlags := 25, slot := 9, constantValue := 0 }, { name := "LOG2_BYTE_BIT_SIZE", type := .int, accessFlags := 26, slot := 10, constantValue := 0 }, { name := "T_BOOLEAN", type := .int, accessFlags := 25, slot := 11, constantValue := 0 }, { name := "T_CHAR", type := .int, accessFlags := 25, slot := 12, constantValue := 0 }, { name := "T_FLOAT", type := .int, accessFlags := 25, slot := 13, constantValue := 0 }, { name := "T_DOUBLE", type := .int, accessFlags := 25, slot := 14, constantValue := 0 }, { name := "T_BYTE", type := .int, accessFlags := 25, slot := 15, constantValue := 0 }, { name := "T_SHORT", type := .int, accessFlags := 25, slot := 16, constantValue := 0 }, { name := "T_INT", type := .int, accessFlags := 25, slot := 17, constantValue := 0 }, { name := "T_LONG", type := .int, accessFlags := 25, slot := 18, constantValue := 0 }, { name := "JLA", type := (.object "jdk/internal/access/JavaLangAccess"), accessFlags := 26, slot := 19, constantValue := 0 }, { name := "SOFT_MAX_ARRAY_LENGTH", type := .int, accessFlags := 25, slot := 20, constantValue := 0 }]
  methods := #[k33m0]
  instanceTypes := #[]
  staticTypes := #[(.object "jdk/internal/misc/Unsafe"), .boolean, .int, .int, .int, .int, .int, .int, .int, .int, .int, .int, .int, .int, .int, .int, .int, .int, .int, (.object "jdk/internal/access/JavaLangAccess"), .int]
  resolved := Array.replicate 378 none
  statics := none }

def pool34 : Array CpInfo := pool [(1, u "java/lang/Class"), (0, .class_ 1), (0, u "java/lang/Object"), (0, .class_ 3)] 3

/-- java/lang/Class -/
def k34 : Class := { plain "java/lang/Class" (some 0) with
  accessFlags := 49
  interfaces := #[]
  cf := some (fileOf pool34 2 #[] #[] 49 4 #[] #[])
  fields := #[]
  methods := #[]
  instanceTypes := #[]
  staticTypes := #[]
  resolved := Array.replicate 8 none
  statics := none }

/-- the primitive byte -/
def k35 : Class := { plain "byte" none with kind := .primitive 'B', accessFlags := 0x411 }
/-- [B -/
def k36 : Class := { plain "[B" (some 0) with kind := .array 35 .byte, interfaces := #[17, 2], accessFlags := 1041 }

/-- the primitive char -/
def k37 : Class := { plain "char" none with kind := .primitive 'C', accessFlags := 0x411 }
/-- [C -/
def k38 : Class := { plain "[C" (some 0) with kind := .array 37 .char, interfaces := #[17, 2], accessFlags := 1041 }

/-- the primitive int -/
def k39 : Class := { plain "int" none with kind := .primitive 'I', accessFlags := 0x411 }
/-- [I -/
def k40 : Class := { plain "[I" (some 0) with kind := .array 39 .int, interfaces := #[17, 2], accessFlags := 1041 }

/-- [Ljava/lang/Long; -/
def k41 : Class := { plain "[Ljava/lang/Long;" (some 0) with kind := .array 22 (.object "java/lang/Long"), interfaces := #[17, 2], accessFlags := 1041 }

/-- [Ljava/lang/Object; -/
def k42 : Class := { plain "[Ljava/lang/Object;" (some 0) with kind := .array 0 (.object "java/lang/Object"), interfaces := #[17, 2], accessFlags := 1041 }

def heap : Heap := #[{ cls := 7, slots := #[.long 0, .int 1, .null, .int 0, .null, .int 0, .int 0], vm := .statics 7 },
  { cls := 18, slots := #[.long 0, .int 0, .ref 264, .ref 265], vm := .statics 18 },
  { cls := 23, slots := #[.ref 7, .null, .int 0], vm := .statics 23 },
  { cls := 30, slots := #[.null, .null, .null], vm := .statics 30 },
  { cls := 34, slots := #[], vm := .mirror 18 },
  { cls := 34, slots := #[], vm := .mirror 27 },
  { cls := 34, slots := #[], vm := .mirror 28 },
  { cls := 41, slots := #[.ref 8, .ref 9, .ref 10, .ref 11, .ref 12, .ref 13, .ref 14, .ref 15, .ref 16, .ref 17, .ref 18, .ref 19, .ref 20, .ref 21, .ref 22, .ref 23, .ref 24, .ref 25, .ref 26, .ref 27, .ref 28, .ref 29, .ref 30, .ref 31, .ref 32, .ref 33, .ref 34, .ref 35, .ref 36, .ref 37, .ref 38, .ref 39, .ref 40, .ref 41, .ref 42, .ref 43, .ref 44, .ref 45, .ref 46, .ref 47, .ref 48, .ref 49, .ref 50, .ref 51, .ref 52, .ref 53, .ref 54, .ref 55, .ref 56, .ref 57, .ref 58, .ref 59, .ref 60, .ref 61, .ref 62, .ref 63, .ref 64, .ref 65, .ref 66, .ref 67, .ref 68, .ref 69, .ref 70, .ref 71, .ref 72, .ref 73, .ref 74, .ref 75, .ref 76, .ref 77, .ref 78, .ref 79, .ref 80, .ref 81, .ref 82, .ref 83, .ref 84, .ref 85, .ref 86, .ref 87, .ref 88, .ref 89, .ref 90, .ref 91, .ref 92, .ref 93, .ref 94, .ref 95, .ref 96, .ref 97, .ref 98, .ref 99, .ref 100, .ref 101, .ref 102, .ref 103, .ref 104, .ref 105, .ref 106, .ref 107, .ref 108, .ref 109, .ref 110, .ref 111, .ref 112, .ref 113, .ref 114, .ref 115, .ref 116, .ref 117, .ref 118, .ref 119, .ref 120, .ref 121, .ref 122, .ref 123, .ref 124, .ref 125, .ref 126, .ref 127, .ref 128, .ref 129, .ref 130, .ref 131, .ref 132, .ref 133, .ref 134, .ref 135, .ref 136, .ref 137, .ref 138, .ref 139, .ref 140, .ref 141, .ref 142, .ref 143, .ref 144, .ref 145, .ref 146, .ref 147, .ref 148, .ref 149, .ref 150, .ref 151, .ref 152, .ref 153, .ref 154, .ref 155, .ref 156, .ref 157, .ref 158, .ref 159, .ref 160, .ref 161, .ref 162, .ref 163, .ref 164, .ref 165, .ref 166, .ref 167, .ref 168, .ref 169, .ref 170, .ref 171, .ref 172, .ref 173, .ref 174, .ref 175, .ref 176, .ref 177, .ref 178, .ref 179, .ref 180, .ref 181, .ref 182, .ref 183, .ref 184, .ref 185, .ref 186, .ref 187, .ref 188, .ref 189, .ref 190, .ref 191, .ref 192, .ref 193, .ref 194, .ref 195, .ref 196, .ref 197, .ref 198, .ref 199, .ref 200, .ref 201, .ref 202, .ref 203, .ref 204, .ref 205, .ref 206, .ref 207, .ref 208, .ref 209, .ref 210, .ref 211, .ref 212, .ref 213, .ref 214, .ref 215, .ref 216, .ref 217, .ref 218, .ref 219, .ref 220, .ref 221, .ref 222, .ref 223, .ref 224, .ref 225, .ref 226, .ref 227, .ref 228, .ref 229, .ref 230, .ref 231, .ref 232, .ref 233, .ref 234, .ref 235, .ref 236, .ref 237, .ref 238, .ref 239, .ref 240, .ref 241, .ref 242, .ref 243, .ref 244, .ref 245, .ref 246, .ref 247, .ref 248, .ref 249, .ref 250, .ref 251, .ref 252, .ref 253, .ref 254, .ref 255, .ref 256, .ref 257, .ref 258, .ref 259, .ref 260, .ref 261, .ref 262, .ref 263], vm := .none },
  { cls := 22, slots := #[.long (-128)], vm := .none },
  { cls := 22, slots := #[.long (-127)], vm := .none },
  { cls := 22, slots := #[.long (-126)], vm := .none },
  { cls := 22, slots := #[.long (-125)], vm := .none },
  { cls := 22, slots := #[.long (-124)], vm := .none },
  { cls := 22, slots := #[.long (-123)], vm := .none },
  { cls := 22, slots := #[.long (-122)], vm := .none },
  { cls := 22, slots := #[.long (-121)], vm := .none },
  { cls := 22, slots := #[.long (-120)], vm := .none },
  { cls := 22, slots := #[.long (-119)], vm := .none },
  { cls := 22, slots := #[.long (-118)], vm := .none },
  { cls := 22, slots := #[.long (-117)], vm := .none },
  { cls := 22, slots := #[.long (-116)], vm := .none },
  { cls := 22, slots := #[.long (-115)], vm := .none },
  { cls := 22, slots := #[.long (-114)], vm := .none },
  { cls := 22, slots := #[.long (-113)], vm := .none },
  { cls := 22, slots := #[.long (-112)], vm := .none },
  { cls := 22, slots := #[.long (-111)], vm := .none },
  { cls := 22, slots := #[.long (-110)], vm := .none },
  { cls := 22, slots := #[.long (-109)], vm := .none },
  { cls := 22, slots := #[.long (-108)], vm := .none },
  { cls := 22, slots := #[.long (-107)], vm := .none },
  { cls := 22, slots := #[.long (-106)], vm := .none },
  { cls := 22, slots := #[.long (-105)], vm := .none },
  { cls := 22, slots := #[.long (-104)], vm := .none },
  { cls := 22, slots := #[.long (-103)], vm := .none },
  { cls := 22, slots := #[.long (-102)], vm := .none },
  { cls := 22, slots := #[.long (-101)], vm := .none },
  { cls := 22, slots := #[.long (-100)], vm := .none },
  { cls := 22, slots := #[.long (-99)], vm := .none },
  { cls := 22, slots := #[.long (-98)], vm := .none },
  { cls := 22, slots := #[.long (-97)], vm := .none },
  { cls := 22, slots := #[.long (-96)], vm := .none },
  { cls := 22, slots := #[.long (-95)], vm := .none },
  { cls := 22, slots := #[.long (-94)], vm := .none },
  { cls := 22, slots := #[.long (-93)], vm := .none },
  { cls := 22, slots := #[.long (-92)], vm := .none },
  { cls := 22, slots := #[.long (-91)], vm := .none },
  { cls := 22, slots := #[.long (-90)], vm := .none },
  { cls := 22, slots := #[.long (-89)], vm := .none },
  { cls := 22, slots := #[.long (-88)], vm := .none },
  { cls := 22, slots := #[.long (-87)], vm := .none },
  { cls := 22, slots := #[.long (-86)], vm := .none },
  { cls := 22, slots := #[.long (-85)], vm := .none },
  { cls := 22, slots := #[.long (-84)], vm := .none },
  { cls := 22, slots := #[.long (-83)], vm := .none },
  { cls := 22, slots := #[.long (-82)], vm := .none },
  { cls := 22, slots := #[.long (-81)], vm := .none },
  { cls := 22, slots := #[.long (-80)], vm := .none },
  { cls := 22, slots := #[.long (-79)], vm := .none },
  { cls := 22, slots := #[.long (-78)], vm := .none },
  { cls := 22, slots := #[.long (-77)], vm := .none },
  { cls := 22, slots := #[.long (-76)], vm := .none },
  { cls := 22, slots := #[.long (-75)], vm := .none },
  { cls := 22, slots := #[.long (-74)], vm := .none },
  { cls := 22, slots := #[.long (-73)], vm := .none },
  { cls := 22, slots := #[.long (-72)], vm := .none },
  { cls := 22, slots := #[.long (-71)], vm := .none },
  { cls := 22, slots := #[.long (-70)], vm := .none },
  { cls := 22, slots := #[.long (-69)], vm := .none },
  { cls := 22, slots := #[.long (-68)], vm := .none },
  { cls := 22, slots := #[.long (-67)], vm := .none },
  { cls := 22, slots := #[.long (-66)], vm := .none },
  { cls := 22, slots := #[.long (-65)], vm := .none },
  { cls := 22, slots := #[.long (-64)], vm := .none },
  { cls := 22, slots := #[.long (-63)], vm := .none },
  { cls := 22, slots := #[.long (-62)], vm := .none },
  { cls := 22, slots := #[.long (-61)], vm := .none },
  { cls := 22, slots := #[.long (-60)], vm := .none },
  { cls := 22, slots := #[.long (-59)], vm := .none },
  { cls := 22, slots := #[.long (-58)], vm := .none },
  { cls := 22, slots := #[.long (-57)], vm := .none },
  { cls := 22, slots := #[.long (-56)], vm := .none },
  { cls := 22, slots := #[.long (-55)], vm := .none },
  { cls := 22, slots := #[.long (-54)], vm := .none },
  { cls := 22, slots := #[.long (-53)], vm := .none },
  { cls := 22, slots := #[.long (-52)], vm := .none },
  { cls := 22, slots := #[.long (-51)], vm := .none },
  { cls := 22, slots := #[.long (-50)], vm := .none },
  { cls := 22, slots := #[.long (-49)], vm := .none },
  { cls := 22, slots := #[.long (-48)], vm := .none },
  { cls := 22, slots := #[.long (-47)], vm := .none },
  { cls := 22, slots := #[.long (-46)], vm := .none },
  { cls := 22, slots := #[.long (-45)], vm := .none },
  { cls := 22, slots := #[.long (-44)], vm := .none },
  { cls := 22, slots := #[.long (-43)], vm := .none },
  { cls := 22, slots := #[.long (-42)], vm := .none },
  { cls := 22, slots := #[.long (-41)], vm := .none },
  { cls := 22, slots := #[.long (-40)], vm := .none },
  { cls := 22, slots := #[.long (-39)], vm := .none },
  { cls := 22, slots := #[.long (-38)], vm := .none },
  { cls := 22, slots := #[.long (-37)], vm := .none },
  { cls := 22, slots := #[.long (-36)], vm := .none },
  { cls := 22, slots := #[.long (-35)], vm := .none },
  { cls := 22, slots := #[.long (-34)], vm := .none },
  { cls := 22, slots := #[.long (-33)], vm := .none },
  { cls := 22, slots := #[.long (-32)], vm := .none },
  { cls := 22, slots := #[.long (-31)], vm := .none },
  { cls := 22, slots := #[.long (-30)], vm := .none },
  { cls := 22, slots := #[.long (-29)], vm := .none },
  { cls := 22, slots := #[.long (-28)], vm := .none },
  { cls := 22, slots := #[.long (-27)], vm := .none },
  { cls := 22, slots := #[.long (-26)], vm := .none },
  { cls := 22, slots := #[.long (-25)], vm := .none },
  { cls := 22, slots := #[.long (-24)], vm := .none },
  { cls := 22, slots := #[.long (-23)], vm := .none },
  { cls := 22, slots := #[.long (-22)], vm := .none },
  { cls := 22, slots := #[.long (-21)], vm := .none },
  { cls := 22, slots := #[.long (-20)], vm := .none },
  { cls := 22, slots := #[.long (-19)], vm := .none },
  { cls := 22, slots := #[.long (-18)], vm := .none },
  { cls := 22, slots := #[.long (-17)], vm := .none },
  { cls := 22, slots := #[.long (-16)], vm := .none },
  { cls := 22, slots := #[.long (-15)], vm := .none },
  { cls := 22, slots := #[.long (-14)], vm := .none },
  { cls := 22, slots := #[.long (-13)], vm := .none },
  { cls := 22, slots := #[.long (-12)], vm := .none },
  { cls := 22, slots := #[.long (-11)], vm := .none },
  { cls := 22, slots := #[.long (-10)], vm := .none },
  { cls := 22, slots := #[.long (-9)], vm := .none },
  { cls := 22, slots := #[.long (-8)], vm := .none },
  { cls := 22, slots := #[.long (-7)], vm := .none },
  { cls := 22, slots := #[.long (-6)], vm := .none },
  { cls := 22, slots := #[.long (-5)], vm := .none },
  { cls := 22, slots := #[.long (-4)], vm := .none },
  { cls := 22, slots := #[.long (-3)], vm := .none },
  { cls := 22, slots := #[.long (-2)], vm := .none },
  { cls := 22, slots := #[.long (-1)], vm := .none },
  { cls := 22, slots := #[.long 0], vm := .none },
  { cls := 22, slots := #[.long 1], vm := .none },
  { cls := 22, slots := #[.long 2], vm := .none },
  { cls := 22, slots := #[.long 3], vm := .none },
  { cls := 22, slots := #[.long 4], vm := .none },
  { cls := 22, slots := #[.long 5], vm := .none },
  { cls := 22, slots := #[.long 6], vm := .none },
  { cls := 22, slots := #[.long 7], vm := .none },
  { cls := 22, slots := #[.long 8], vm := .none },
  { cls := 22, slots := #[.long 9], vm := .none },
  { cls := 22, slots := #[.long 10], vm := .none },
  { cls := 22, slots := #[.long 11], vm := .none },
  { cls := 22, slots := #[.long 12], vm := .none },
  { cls := 22, slots := #[.long 13], vm := .none },
  { cls := 22, slots := #[.long 14], vm := .none },
  { cls := 22, slots := #[.long 15], vm := .none },
  { cls := 22, slots := #[.long 16], vm := .none },
  { cls := 22, slots := #[.long 17], vm := .none },
  { cls := 22, slots := #[.long 18], vm := .none },
  { cls := 22, slots := #[.long 19], vm := .none },
  { cls := 22, slots := #[.long 20], vm := .none },
  { cls := 22, slots := #[.long 21], vm := .none },
  { cls := 22, slots := #[.long 22], vm := .none },
  { cls := 22, slots := #[.long 23], vm := .none },
  { cls := 22, slots := #[.long 24], vm := .none },
  { cls := 22, slots := #[.long 25], vm := .none },
  { cls := 22, slots := #[.long 26], vm := .none },
  { cls := 22, slots := #[.long 27], vm := .none },
  { cls := 22, slots := #[.long 28], vm := .none },
  { cls := 22, slots := #[.long 29], vm := .none },
  { cls := 22, slots := #[.long 30], vm := .none },
  { cls := 22, slots := #[.long 31], vm := .none },
  { cls := 22, slots := #[.long 32], vm := .none },
  { cls := 22, slots := #[.long 33], vm := .none },
  { cls := 22, slots := #[.long 34], vm := .none },
  { cls := 22, slots := #[.long 35], vm := .none },
  { cls := 22, slots := #[.long 36], vm := .none },
  { cls := 22, slots := #[.long 37], vm := .none },
  { cls := 22, slots := #[.long 38], vm := .none },
  { cls := 22, slots := #[.long 39], vm := .none },
  { cls := 22, slots := #[.long 40], vm := .none },
  { cls := 22, slots := #[.long 41], vm := .none },
  { cls := 22, slots := #[.long 42], vm := .none },
  { cls := 22, slots := #[.long 43], vm := .none },
  { cls := 22, slots := #[.long 44], vm := .none },
  { cls := 22, slots := #[.long 45], vm := .none },
  { cls := 22, slots := #[.long 46], vm := .none },
  { cls := 22, slots := #[.long 47], vm := .none },
  { cls := 22, slots := #[.long 48], vm := .none },
  { cls := 22, slots := #[.long 49], vm := .none },
  { cls := 22, slots := #[.long 50], vm := .none },
  { cls := 22, slots := #[.long 51], vm := .none },
  { cls := 22, slots := #[.long 52], vm := .none },
  { cls := 22, slots := #[.long 53], vm := .none },
  { cls := 22, slots := #[.long 54], vm := .none },
  { cls := 22, slots := #[.long 55], vm := .none },
  { cls := 22, slots := #[.long 56], vm := .none },
  { cls := 22, slots := #[.long 57], vm := .none },
  { cls := 22, slots := #[.long 58], vm := .none },
  { cls := 22, slots := #[.long 59], vm := .none },
  { cls := 22, slots := #[.long 60], vm := .none },
  { cls := 22, slots := #[.long 61], vm := .none },
  { cls := 22, slots := #[.long 62], vm := .none },
  { cls := 22, slots := #[.long 63], vm := .none },
  { cls := 22, slots := #[.long 64], vm := .none },
  { cls := 22, slots := #[.long 65], vm := .none },
  { cls := 22, slots := #[.long 66], vm := .none },
  { cls := 22, slots := #[.long 67], vm := .none },
  { cls := 22, slots := #[.long 68], vm := .none },
  { cls := 22, slots := #[.long 69], vm := .none },
  { cls := 22, slots := #[.long 70], vm := .none },
  { cls := 22, slots := #[.long 71], vm := .none },
  { cls := 22, slots := #[.long 72], vm := .none },
  { cls := 22, slots := #[.long 73], vm := .none },
  { cls := 22, slots := #[.long 74], vm := .none },
  { cls := 22, slots := #[.long 75], vm := .none },
  { cls := 22, slots := #[.long 76], vm := .none },
  { cls := 22, slots := #[.long 77], vm := .none },
  { cls := 22, slots := #[.long 78], vm := .none },
  { cls := 22, slots := #[.long 79], vm := .none },
  { cls := 22, slots := #[.long 80], vm := .none },
  { cls := 22, slots := #[.long 81], vm := .none },
  { cls := 22, slots := #[.long 82], vm := .none },
  { cls := 22, slots := #[.long 83], vm := .none },
  { cls := 22, slots := #[.long 84], vm := .none },
  { cls := 22, slots := #[.long 85], vm := .none },
  { cls := 22, slots := #[.long 86], vm := .none },
  { cls := 22, slots := #[.long 87], vm := .none },
  { cls := 22, slots := #[.long 88], vm := .none },
  { cls := 22, slots := #[.long 89], vm := .none },
  { cls := 22, slots := #[.long 90], vm := .none },
  { cls := 22, slots := #[.long 91], vm := .none },
  { cls := 22, slots := #[.long 92], vm := .none },
  { cls := 22, slots := #[.long 93], vm := .none },
  { cls := 22, slots := #[.long 94], vm := .none },
  { cls := 22, slots := #[.long 95], vm := .none },
  { cls := 22, slots := #[.long 96], vm := .none },
  { cls := 22, slots := #[.long 97], vm := .none },
  { cls := 22, slots := #[.long 98], vm := .none },
  { cls := 22, slots := #[.long 99], vm := .none },
  { cls := 22, slots := #[.long 100], vm := .none },
  { cls := 22, slots := #[.long 101], vm := .none },
  { cls := 22, slots := #[.long 102], vm := .none },
  { cls := 22, slots := #[.long 103], vm := .none },
  { cls := 22, slots := #[.long 104], vm := .none },
  { cls := 22, slots := #[.long 105], vm := .none },
  { cls := 22, slots := #[.long 106], vm := .none },
  { cls := 22, slots := #[.long 107], vm := .none },
  { cls := 22, slots := #[.long 108], vm := .none },
  { cls := 22, slots := #[.long 109], vm := .none },
  { cls := 22, slots := #[.long 110], vm := .none },
  { cls := 22, slots := #[.long 111], vm := .none },
  { cls := 22, slots := #[.long 112], vm := .none },
  { cls := 22, slots := #[.long 113], vm := .none },
  { cls := 22, slots := #[.long 114], vm := .none },
  { cls := 22, slots := #[.long 115], vm := .none },
  { cls := 22, slots := #[.long 116], vm := .none },
  { cls := 22, slots := #[.long 117], vm := .none },
  { cls := 22, slots := #[.long 118], vm := .none },
  { cls := 22, slots := #[.long 119], vm := .none },
  { cls := 22, slots := #[.long 120], vm := .none },
  { cls := 22, slots := #[.long 121], vm := .none },
  { cls := 22, slots := #[.long 122], vm := .none },
  { cls := 22, slots := #[.long 123], vm := .none },
  { cls := 22, slots := #[.long 124], vm := .none },
  { cls := 22, slots := #[.long 125], vm := .none },
  { cls := 22, slots := #[.long 126], vm := .none },
  { cls := 22, slots := #[.long 127], vm := .none },
  { cls := 42, slots := #[], vm := .none },
  { cls := 42, slots := #[], vm := .none }]
def classes : Array Class := #[k0, k1, k2, k3, k4, k5, k6, k7, k8, k9, k10, k11, k12, k13, k14, k15, k16, k17, k18, k19, k20, k21, k22, k23, k24, k25, k26, k27, k28, k29, k30, k31, k32, k33, k34, k35, k36, k37, k38, k39, k40, k41, k42]
def interned : List (Array UInt16 × Addr) := []
def slotsUsed : Nat := 529
def theMethod : MethodId := ⟨1, 2⟩
def args0 : Array Value := #[.int 5, .long 5, .long 5, .int 5]
def aboutOver (below : List Frame) : State where
  vm := { classes := classes, interned := interned.toArray }
  heap := heap
  slotsUsed := slotsUsed
  threads := #[{ frames := .invoking theMethod args0 :: below }]
def below0 : List Frame := [.native { method := ⟨0, 0⟩, args := #[] }]
def about1 : State := aboutOver below0
def p0 : Program := .bare "" "" ""
def e0 : Env := launch0.env 0 0 0
theorem w_frames : about1.frames = Frame.invoking theMethod args0 :: below0 := rfl
set_option maxRecDepth 65536 in
theorem w_args : argsFit about1.vm theMethod args0 = true := by decide +kernel
set_option maxRecDepth 65536 in
theorem w_heap : heapFits about1 = true := by decide +kernel
set_option maxRecDepth 65536 in
theorem w_runnable : about1.curStatus? = some .runnable := by decide +kernel
set_option maxRecDepth 65536 in
theorem w_alone : about1.alone = true := by decide +kernel
set_option maxRecDepth 65536 in
theorem w_named : about1.methodNamed? x = some theMethod := by decide +kernel
set_option maxRecDepth 65536 in
theorem w_hears : about1.hears theMethod below0 = true := by decide +kernel
set_option maxRecDepth 65536 in
theorem w_ripe : about1.ripe theMethod args0 below0 = true := by decide +kernel
theorem w_running : about1.status = .running := rfl
set_option maxRecDepth 65536 in
theorem w_room : about1.hasRoom e0.platform room_1 = true :=
  launch0.hasRoom_least _ room_1 (by decide +kernel) (by decide +kernel) (by decide +kernel) (by decide +kernel) (by decide +kernel) (by decide +kernel)
theorem allAtoms_all (ts : List Jvm.Cond) (a : Array Jvm.Value) (st : Jvm.State) : (allAtoms ts).before a st = ts.all (fun c => c.before a st) := by
  induction ts with
  | nil => rfl
  | cons c t ih =>
    show (Jvm.Cond.and c (allAtoms t)).before a st = _
    rw [Jvm.Cond.before_and, ih, List.all_cons]
def words1 : List Jvm.Cond := Jvm.Cond.code x code maxLocals ret :: tables_1
/-- a 'code' word, met by the world's own term for the bytes: nothing is compared byte by byte -/
theorem code_word {y : MethodName} {bytes : ByteArray} {mx : Nat} {rt : Option FieldType} {a : Array Value} {s : State} {m : MethodId} {meth : Method} {c : Code} (h1 : s.methodNamed? y = some m) (h2 : s.vm.method? m = some meth) (h3 : meth.code = some c) (h4 : c.code = bytes)
    (h5 : (c.maxLocals == mx && c.exceptionTable.isEmpty && decide (c.maxStack ≤ mostOperands) && decide (meth.sig.returnType = rt) && !meth.locks && decide (parseMethodDescriptor y.desc = some meth.sig)) = true) : (Jvm.Cond.code y bytes mx rt).before a s = true := by
  simp only [Bool.and_eq_true, beq_iff_eq, Bool.not_eq_true', decide_eq_true_eq] at h5
  obtain ⟨⟨⟨⟨⟨g1, g2⟩, g3⟩, g4⟩, g5⟩, g6⟩ := h5
  simp [Cond.before, Cond.holds, Cond.value, h1, h2, h3, h4, g1, g2, g3, g4, g5, g6]
def isCode : Jvm.Cond → Bool
  | .code _ _ _ _ => true
  | _ => false
theorem all_split {L : List Jvm.Cond} {P : Jvm.Cond → Bool} (h1 : L.all (fun c => isCode c || P c) = true) (h2 : ∀ c ∈ L.filter isCode, P c = true) : L.all P = true := by
  refine List.all_eq_true.mpr fun c hc => ?_
  have h := List.all_eq_true.mp h1 c hc
  rcases Bool.eq_false_or_eq_true (isCode c) with hi | hi
  · exact h2 c (List.mem_filter.mpr ⟨hc, hi⟩)
  · simpa [hi] using h
set_option maxRecDepth 65536 in
theorem w_c0 : (Jvm.Cond.code x code maxLocals ret).before args0 about1 = true := code_word (m := ⟨1, 2⟩) (meth := k1m2) (c := k1c2) (by decide +kernel) rfl rfl rfl (by decide +kernel)
set_option maxRecDepth 65536 in
theorem w_c1 : (Jvm.Cond.code ({ cls := "java/lang/String", name := "valueOf", desc := "(C)Ljava/lang/String;" } : Jvm.MethodName) jdk_42_method_139_code (1 : Nat) (Option.some (Jvm.ClassFile.FieldType.object "java/lang/String"))).before args0 about1 = true := code_word (m := ⟨7, 3⟩) (meth := k7m3) (c := k7c3) (by decide +kernel) rfl rfl rfl (by decide +kernel)
set_option maxRecDepth 65536 in
theorem w_c2 : (Jvm.Cond.code ({ cls := "java/lang/StringLatin1", name := "canEncode", desc := "(C)Z" } : Jvm.MethodName) jdk_43_method_3_code (1 : Nat) (Option.some Jvm.ClassFile.FieldType.boolean)).before args0 about1 = true := code_word (m := ⟨8, 1⟩) (meth := k8m1) (c := k8c1) (by decide +kernel) rfl rfl rfl (by decide +kernel)
set_option maxRecDepth 65536 in
theorem w_c3 : (Jvm.Cond.code ({ cls := "java/lang/StringLatin1", name := "toBytes", desc := "(C)[B" } : Jvm.MethodName) jdk_43_method_46_code (1 : Nat) (Option.some (Jvm.ClassFile.FieldType.array Jvm.ClassFile.FieldType.byte))).before args0 about1 = true := code_word (m := ⟨8, 2⟩) (meth := k8m2) (c := k8c2) (by decide +kernel) rfl rfl rfl (by decide +kernel)
set_option maxRecDepth 65536 in
theorem w_c4 : (Jvm.Cond.code ({ cls := "java/lang/String", name := "<init>", desc := "([BB)V" } : Jvm.MethodName) jdk_42_method_151_code (3 : Nat) (Option.none : Option Jvm.ClassFile.FieldType)).before args0 about1 = true := code_word (m := ⟨7, 5⟩) (meth := k7m5) (c := k7c5) (by decide +kernel) rfl rfl rfl (by decide +kernel)
set_option maxRecDepth 65536 in
theorem w_c5 : (Jvm.Cond.code ({ cls := "java/lang/Object", name := "<init>", desc := "()V" } : Jvm.MethodName) object_method_1_code (1 : Nat) (Option.none : Option Jvm.ClassFile.FieldType)).before args0 about1 = true := code_word (m := ⟨0, 0⟩) (meth := k0m0) (c := k0c0) (by decide +kernel) rfl rfl rfl (by decide +kernel)
set_option maxRecDepth 65536 in
theorem w_c6 : (Jvm.Cond.code ({ cls := "com/example/measured_reasoner/measuredreasoner/Summary", name := "<init>", desc := "()V" } : Jvm.MethodName) prog_19_method_1_code (1 : Nat) (Option.none : Option Jvm.ClassFile.FieldType)).before args0 about1 = true := code_word (m := ⟨9, 0⟩) (meth := k9m0) (c := k9c0) (by decide +kernel) rfl rfl rfl (by decide +kernel)
set_option maxRecDepth 65536 in
theorem w_c7 : (Jvm.Cond.code ({ cls := "java/util/ArrayList", name := "<init>", desc := "()V" } : Jvm.MethodName) jdk_38_method_2_code (1 : Nat) (Option.none : Option Jvm.ClassFile.FieldType)).before args0 about1 = true := code_word (m := ⟨18, 0⟩) (meth := k18m0) (c := k18c0) (by decide +kernel) rfl rfl rfl (by decide +kernel)
set_option maxRecDepth 65536 in
theorem w_c8 : (Jvm.Cond.code ({ cls := "java/util/AbstractList", name := "<init>", desc := "()V" } : Jvm.MethodName) jdk_39_method_1_code (1 : Nat) (Option.none : Option Jvm.ClassFile.FieldType)).before args0 about1 = true := code_word (m := ⟨15, 0⟩) (meth := k15m0) (c := k15c0) (by decide +kernel) rfl rfl rfl (by decide +kernel)
set_option maxRecDepth 65536 in
theorem w_c9 : (Jvm.Cond.code ({ cls := "java/util/AbstractCollection", name := "<init>", desc := "()V" } : Jvm.MethodName) jdk_22_method_1_code (1 : Nat) (Option.none : Option Jvm.ClassFile.FieldType)).before args0 about1 = true := code_word (m := ⟨12, 0⟩) (meth := k12m0) (c := k12c0) (by decide +kernel) rfl rfl rfl (by decide +kernel)
set_option maxRecDepth 65536 in
theorem w_c10 : (Jvm.Cond.code ({ cls := "com/example/measured_reasoner/measuredreasoner/Summary", name := "count", desc := "(Ljava/lang/String;J)Lcom/example/measured_reasoner/measuredreasoner/Summary;" } : Jvm.MethodName) prog_19_method_2_code (4 : Nat) (Option.some (Jvm.ClassFile.FieldType.object "com/example/measured_reasoner/measuredreasoner/Summary"))).before args0 about1 = true := code_word (m := ⟨9, 1⟩) (meth := k9m1) (c := k9c1) (by decide +kernel) rfl rfl rfl (by decide +kernel)
set_option maxRecDepth 65536 in
theorem w_c11 : (Jvm.Cond.code ({ cls := "java/lang/Long", name := "valueOf", desc := "(J)Ljava/lang/Long;" } : Jvm.MethodName) jdk_35_method_24_code (3 : Nat) (Option.some (Jvm.ClassFile.FieldType.object "java/lang/Long"))).before args0 about1 = true := code_word (m := ⟨22, 0⟩) (meth := k22m0) (c := k22c0) (by decide +kernel) rfl rfl rfl (by decide +kernel)
set_option maxRecDepth 65536 in
theorem w_c12 : (Jvm.Cond.code ({ cls := "com/example/measured_reasoner/measuredreasoner/Summary$Field", name := "<init>", desc := "(Ljava/lang/String;Ljava/lang/Number;)V" } : Jvm.MethodName) prog_20_method_1_code (3 : Nat) (Option.none : Option Jvm.ClassFile.FieldType)).before args0 about1 = true := code_word (m := ⟨20, 0⟩) (meth := k20m0) (c := k20c0) (by decide +kernel) rfl rfl rfl (by decide +kernel)
set_option maxRecDepth 65536 in
theorem w_c13 : (Jvm.Cond.code ({ cls := "java/lang/Record", name := "<init>", desc := "()V" } : Jvm.MethodName) jdk_30_method_1_code (1 : Nat) (Option.none : Option Jvm.ClassFile.FieldType)).before args0 about1 = true := code_word (m := ⟨19, 0⟩) (meth := k19m0) (c := k19c0) (by decide +kernel) rfl rfl rfl (by decide +kernel)
set_option maxRecDepth 65536 in
theorem w_c14 : (Jvm.Cond.code ({ cls := "java/util/ArrayList", name := "add", desc := "(Ljava/lang/Object;)Z" } : Jvm.MethodName) jdk_38_method_25_code (2 : Nat) (Option.some Jvm.ClassFile.FieldType.boolean)).before args0 about1 = true := code_word (m := ⟨18, 7⟩) (meth := k18m7) (c := k18c7) (by decide +kernel) rfl rfl rfl (by decide +kernel)
set_option maxRecDepth 65536 in
theorem w_c15 : (Jvm.Cond.code ({ cls := "java/util/ArrayList", name := "add", desc := "(Ljava/lang/Object;[Ljava/lang/Object;I)V" } : Jvm.MethodName) jdk_38_method_24_code (4 : Nat) (Option.none : Option Jvm.ClassFile.FieldType)).before args0 about1 = true := code_word (m := ⟨18, 6⟩) (meth := k18m6) (c := k18c6) (by decide +kernel) rfl rfl rfl (by decide +kernel)
set_option maxRecDepth 65536 in
theorem w_c16 : (Jvm.Cond.code ({ cls := "java/util/ArrayList", name := "grow", desc := "()[Ljava/lang/Object;" } : Jvm.MethodName) jdk_38_method_7_code (1 : Nat) (Option.some (Jvm.ClassFile.FieldType.array (Jvm.ClassFile.FieldType.object "java/lang/Object")))).before args0 about1 = true := code_word (m := ⟨18, 2⟩) (meth := k18m2) (c := k18c2) (by decide +kernel) rfl rfl rfl (by decide +kernel)
set_option maxRecDepth 65536 in
theorem w_c17 : (Jvm.Cond.code ({ cls := "java/util/ArrayList", name := "grow", desc := "(I)[Ljava/lang/Object;" } : Jvm.MethodName) jdk_38_method_6_code (4 : Nat) (Option.some (Jvm.ClassFile.FieldType.array (Jvm.ClassFile.FieldType.object "java/lang/Object")))).before args0 about1 = true := code_word (m := ⟨18, 1⟩) (meth := k18m1) (c := k18c1) (by decide +kernel) rfl rfl rfl (by decide +kernel)
set_option maxRecDepth 65536 in
theorem w_c18 : (Jvm.Cond.code ({ cls := "java/lang/Math", name := "max", desc := "(II)I" } : Jvm.MethodName) jdk_29_method_65_code (2 : Nat) (Option.some Jvm.ClassFile.FieldType.int)).before args0 about1 = true := code_word (m := ⟨24, 1⟩) (meth := k24m1) (c := k24c1) (by decide +kernel) rfl rfl rfl (by decide +kernel)
set_option maxRecDepth 65536 in
theorem w_c19 : (Jvm.Cond.code ({ cls := "java/lang/Long", name := "<init>", desc := "(J)V" } : Jvm.MethodName) jdk_35_method_26_code (3 : Nat) (Option.none : Option Jvm.ClassFile.FieldType)).before args0 about1 = true := code_word (m := ⟨22, 1⟩) (meth := k22m1) (c := k22c1) (by decide +kernel) rfl rfl rfl (by decide +kernel)
set_option maxRecDepth 65536 in
theorem w_c20 : (Jvm.Cond.code ({ cls := "java/lang/Number", name := "<init>", desc := "()V" } : Jvm.MethodName) jdk_18_method_1_code (1 : Nat) (Option.none : Option Jvm.ClassFile.FieldType)).before args0 about1 = true := code_word (m := ⟨21, 0⟩) (meth := k21m0) (c := k21c0) (by decide +kernel) rfl rfl rfl (by decide +kernel)
set_option maxRecDepth 65536 in
theorem w_c21 : (Jvm.Cond.code ({ cls := "com/example/measured_reasoner/measuredreasoner/Summary", name := "fields", desc := "()Ljava/util/List;" } : Jvm.MethodName) prog_19_method_4_code (1 : Nat) (Option.some (Jvm.ClassFile.FieldType.object "java/util/List"))).before args0 about1 = true := code_word (m := ⟨9, 3⟩) (meth := k9m3) (c := k9c3) (by decide +kernel) rfl rfl rfl (by decide +kernel)
set_option maxRecDepth 65536 in
theorem w_c22 : (Jvm.Cond.code ({ cls := "java/util/Collections", name := "unmodifiableList", desc := "(Ljava/util/List;)Ljava/util/List;" } : Jvm.MethodName) jdk_79_method_35_code (1 : Nat) (Option.some (Jvm.ClassFile.FieldType.object "java/util/List"))).before args0 about1 = true := code_word (m := ⟨25, 1⟩) (meth := k25m1) (c := k25c1) (by decide +kernel) rfl rfl rfl (by decide +kernel)
set_option maxRecDepth 65536 in
theorem w_c23 : (Jvm.Cond.code ({ cls := "java/util/Collections$UnmodifiableRandomAccessList", name := "<init>", desc := "(Ljava/util/List;)V" } : Jvm.MethodName) jdk_121_method_1_code (2 : Nat) (Option.none : Option Jvm.ClassFile.FieldType)).before args0 about1 = true := code_word (m := ⟨28, 0⟩) (meth := k28m0) (c := k28c0) (by decide +kernel) rfl rfl rfl (by decide +kernel)
set_option maxRecDepth 65536 in
theorem w_c24 : (Jvm.Cond.code ({ cls := "java/util/Collections$UnmodifiableList", name := "<init>", desc := "(Ljava/util/List;)V" } : Jvm.MethodName) jdk_120_method_1_code (2 : Nat) (Option.none : Option Jvm.ClassFile.FieldType)).before args0 about1 = true := code_word (m := ⟨27, 0⟩) (meth := k27m0) (c := k27c0) (by decide +kernel) rfl rfl rfl (by decide +kernel)
set_option maxRecDepth 65536 in
theorem w_c25 : (Jvm.Cond.code ({ cls := "java/util/Collections$UnmodifiableCollection", name := "<init>", desc := "(Ljava/util/Collection;)V" } : Jvm.MethodName) jdk_119_method_1_code (2 : Nat) (Option.none : Option Jvm.ClassFile.FieldType)).before args0 about1 = true := code_word (m := ⟨26, 0⟩) (meth := k26m0) (c := k26c0) (by decide +kernel) rfl rfl rfl (by decide +kernel)
set_option maxRecDepth 65536 in
theorem w_c26 : (Jvm.Cond.code ({ cls := "java/util/Collections$UnmodifiableCollection", name := "size", desc := "()I" } : Jvm.MethodName) jdk_119_method_2_code (1 : Nat) (Option.some Jvm.ClassFile.FieldType.int)).before args0 about1 = true := code_word (m := ⟨26, 1⟩) (meth := k26m1) (c := k26c1) (by decide +kernel) rfl rfl rfl (by decide +kernel)
set_option maxRecDepth 65536 in
theorem w_c27 : (Jvm.Cond.code ({ cls := "java/util/ArrayList", name := "size", desc := "()I" } : Jvm.MethodName) jdk_38_method_8_code (1 : Nat) (Option.some Jvm.ClassFile.FieldType.int)).before args0 about1 = true := code_word (m := ⟨18, 3⟩) (meth := k18m3) (c := k18c3) (by decide +kernel) rfl rfl rfl (by decide +kernel)
set_option maxRecDepth 65536 in
theorem w_c28 : (Jvm.Cond.code ({ cls := "java/util/Collections$UnmodifiableList", name := "get", desc := "(I)Ljava/lang/Object;" } : Jvm.MethodName) jdk_120_method_4_code (2 : Nat) (Option.some (Jvm.ClassFile.FieldType.object "java/lang/Object"))).before args0 about1 = true := code_word (m := ⟨27, 1⟩) (meth := k27m1) (c := k27c1) (by decide +kernel) rfl rfl rfl (by decide +kernel)
set_option maxRecDepth 65536 in
theorem w_c29 : (Jvm.Cond.code ({ cls := "java/util/ArrayList", name := "get", desc := "(I)Ljava/lang/Object;" } : Jvm.MethodName) jdk_38_method_20_code (2 : Nat) (Option.some (Jvm.ClassFile.FieldType.object "java/lang/Object"))).before args0 about1 = true := code_word (m := ⟨18, 5⟩) (meth := k18m5) (c := k18c5) (by decide +kernel) rfl rfl rfl (by decide +kernel)
set_option maxRecDepth 65536 in
theorem w_c30 : (Jvm.Cond.code ({ cls := "java/util/Objects", name := "checkIndex", desc := "(II)I" } : Jvm.MethodName) jdk_31_method_17_code (2 : Nat) (Option.some Jvm.ClassFile.FieldType.int)).before args0 about1 = true := code_word (m := ⟨29, 1⟩) (meth := k29m1) (c := k29c1) (by decide +kernel) rfl rfl rfl (by decide +kernel)
set_option maxRecDepth 65536 in
theorem w_c31 : (Jvm.Cond.code ({ cls := "jdk/internal/util/Preconditions", name := "checkIndex", desc := "(IILjava/util/function/BiFunction;)I" } : Jvm.MethodName) jdk_41_method_11_code (3 : Nat) (Option.some Jvm.ClassFile.FieldType.int)).before args0 about1 = true := code_word (m := ⟨30, 1⟩) (meth := k30m1) (c := k30c1) (by decide +kernel) rfl rfl rfl (by decide +kernel)
set_option maxRecDepth 65536 in
theorem w_c32 : (Jvm.Cond.code ({ cls := "java/util/ArrayList", name := "elementData", desc := "(I)Ljava/lang/Object;" } : Jvm.MethodName) jdk_38_method_18_code (2 : Nat) (Option.some (Jvm.ClassFile.FieldType.object "java/lang/Object"))).before args0 about1 = true := code_word (m := ⟨18, 4⟩) (meth := k18m4) (c := k18c4) (by decide +kernel) rfl rfl rfl (by decide +kernel)
set_option maxRecDepth 65536 in
theorem w_c33 : (Jvm.Cond.code ({ cls := "com/example/measured_reasoner/measuredreasoner/SummaryCountPinLaw", name := "isCount", desc := "(Lcom/example/measured_reasoner/measuredreasoner/Summary$Field;Ljava/lang/String;J)Z" } : Jvm.MethodName) method_2_code (5 : Nat) (Option.some Jvm.ClassFile.FieldType.boolean)).before args0 about1 = true := code_word (m := ⟨1, 1⟩) (meth := k1m1) (c := k1c1) (by decide +kernel) rfl rfl rfl (by decide +kernel)
set_option maxRecDepth 65536 in
theorem w_c34 : (Jvm.Cond.code ({ cls := "com/example/measured_reasoner/measuredreasoner/Summary$Field", name := "value", desc := "()Ljava/lang/Number;" } : Jvm.MethodName) prog_20_method_8_code (1 : Nat) (Option.some (Jvm.ClassFile.FieldType.object "java/lang/Number"))).before args0 about1 = true := code_word (m := ⟨20, 2⟩) (meth := k20m2) (c := k20c2) (by decide +kernel) rfl rfl rfl (by decide +kernel)
set_option maxRecDepth 65536 in
theorem w_c35 : (Jvm.Cond.code ({ cls := "com/example/measured_reasoner/measuredreasoner/Summary$Field", name := "name", desc := "()Ljava/lang/String;" } : Jvm.MethodName) prog_20_method_7_code (1 : Nat) (Option.some (Jvm.ClassFile.FieldType.object "java/lang/String"))).before args0 about1 = true := code_word (m := ⟨20, 1⟩) (meth := k20m1) (c := k20c1) (by decide +kernel) rfl rfl rfl (by decide +kernel)
set_option maxRecDepth 65536 in
theorem w_c36 : (Jvm.Cond.code ({ cls := "java/lang/String", name := "equals", desc := "(Ljava/lang/Object;)Z" } : Jvm.MethodName) jdk_42_method_66_code (3 : Nat) (Option.some Jvm.ClassFile.FieldType.boolean)).before args0 about1 = true := code_word (m := ⟨7, 2⟩) (meth := k7m2) (c := k7c2) (by decide +kernel) rfl rfl rfl (by decide +kernel)
set_option maxRecDepth 65536 in
theorem w_c37 : (Jvm.Cond.code ({ cls := "java/lang/Long", name := "longValue", desc := "()J" } : Jvm.MethodName) jdk_35_method_31_code (1 : Nat) (Option.some Jvm.ClassFile.FieldType.long)).before args0 about1 = true := code_word (m := ⟨22, 2⟩) (meth := k22m2) (c := k22c2) (by decide +kernel) rfl rfl rfl (by decide +kernel)
set_option maxRecDepth 65536 in
theorem w_c38 : (Jvm.Cond.code ({ cls := "java/lang/String", name := "<init>", desc := "([C)V" } : Jvm.MethodName) jdk_42_method_3_code (2 : Nat) (Option.none : Option Jvm.ClassFile.FieldType)).before args0 about1 = true := code_word (m := ⟨7, 1⟩) (meth := k7m1) (c := k7c1) (by decide +kernel) rfl rfl rfl (by decide +kernel)
set_option maxRecDepth 65536 in
theorem w_c39 : (Jvm.Cond.code ({ cls := "java/lang/String", name := "<init>", desc := "([CIILjava/lang/Void;)V" } : Jvm.MethodName) jdk_42_method_149_code (6 : Nat) (Option.none : Option Jvm.ClassFile.FieldType)).before args0 about1 = true := code_word (m := ⟨7, 4⟩) (meth := k7m4) (c := k7c4) (by decide +kernel) rfl rfl rfl (by decide +kernel)
set_option maxRecDepth 65536 in
theorem w_c40 : (Jvm.Cond.code ({ cls := "java/lang/StringUTF16", name := "compress", desc := "([CII)[B" } : Jvm.MethodName) jdk_52_method_16_code (6 : Nat) (Option.some (Jvm.ClassFile.FieldType.array Jvm.ClassFile.FieldType.byte))).before args0 about1 = true := code_word (m := ⟨31, 2⟩) (meth := k31m2) (c := k31c2) (by decide +kernel) rfl rfl rfl (by decide +kernel)
set_option maxRecDepth 65536 in
theorem w_c41 : (Jvm.Cond.code ({ cls := "java/lang/StringUTF16", name := "compress", desc := "([CI[BII)I" } : Jvm.MethodName) jdk_52_method_21_code (7 : Nat) (Option.some Jvm.ClassFile.FieldType.int)).before args0 about1 = true := code_word (m := ⟨31, 3⟩) (meth := k31m3) (c := k31c3) (by decide +kernel) rfl rfl rfl (by decide +kernel)
set_option maxRecDepth 65536 in
theorem w_c42 : (Jvm.Cond.code ({ cls := "java/lang/StringUTF16", name := "coderFromArrayLen", desc := "([BI)B" } : Jvm.MethodName) jdk_52_method_15_code (2 : Nat) (Option.some Jvm.ClassFile.FieldType.byte)).before args0 about1 = true := code_word (m := ⟨31, 1⟩) (meth := k31m1) (c := k31c1) (by decide +kernel) rfl rfl rfl (by decide +kernel)
set_option maxRecDepth 65536 in
theorem w_c43 : (Jvm.Cond.code ({ cls := "com/example/measured_reasoner/measuredreasoner/Summary", name := "mean", desc := "(Ljava/lang/String;D)Lcom/example/measured_reasoner/measuredreasoner/Summary;" } : Jvm.MethodName) prog_19_method_3_code (4 : Nat) (Option.some (Jvm.ClassFile.FieldType.object "com/example/measured_reasoner/measuredreasoner/Summary"))).before args0 about1 = true := code_word (m := ⟨9, 2⟩) (meth := k9m2) (c := k9c2) (by decide +kernel) rfl rfl rfl (by decide +kernel)
set_option maxRecDepth 65536 in
theorem w_c44 : (Jvm.Cond.code ({ cls := "java/lang/Double", name := "valueOf", desc := "(D)Ljava/lang/Double;" } : Jvm.MethodName) jdk_117_method_4_code (2 : Nat) (Option.some (Jvm.ClassFile.FieldType.object "java/lang/Double"))).before args0 about1 = true := code_word (m := ⟨32, 0⟩) (meth := k32m0) (c := k32c0) (by decide +kernel) rfl rfl rfl (by decide +kernel)
set_option maxRecDepth 65536 in
theorem w_c45 : (Jvm.Cond.code ({ cls := "java/lang/Double", name := "<init>", desc := "(D)V" } : Jvm.MethodName) jdk_117_method_9_code (3 : Nat) (Option.none : Option Jvm.ClassFile.FieldType)).before args0 about1 = true := code_word (m := ⟨32, 1⟩) (meth := k32m1) (c := k32c1) (by decide +kernel) rfl rfl rfl (by decide +kernel)
def codes1 : List Jvm.Cond := [Jvm.Cond.code x code maxLocals ret, Jvm.Cond.code ({ cls := "java/lang/String", name := "valueOf", desc := "(C)Ljava/lang/String;" } : Jvm.MethodName) jdk_42_method_139_code (1 : Nat) (Option.some (Jvm.ClassFile.FieldType.object "java/lang/String")), Jvm.Cond.code ({ cls := "java/lang/StringLatin1", name := "canEncode", desc := "(C)Z" } : Jvm.MethodName) jdk_43_method_3_code (1 : Nat) (Option.some Jvm.ClassFile.FieldType.boolean), Jvm.Cond.code ({ cls := "java/lang/StringLatin1", name := "toBytes", desc := "(C)[B" } : Jvm.MethodName) jdk_43_method_46_code (1 : Nat) (Option.some (Jvm.ClassFile.FieldType.array Jvm.ClassFile.FieldType.byte)), Jvm.Cond.code ({ cls := "java/lang/String", name := "<init>", desc := "([BB)V" } : Jvm.MethodName) jdk_42_method_151_code (3 : Nat) (Option.none : Option Jvm.ClassFile.FieldType), Jvm.Cond.code ({ cls := "java/lang/Object", name := "<init>", desc := "()V" } : Jvm.MethodName) object_method_1_code (1 : Nat) (Option.none : Option Jvm.ClassFile.FieldType), Jvm.Cond.code ({ cls := "com/example/measured_reasoner/measuredreasoner/Summary", name := "<init>", desc := "()V" } : Jvm.MethodName) prog_19_method_1_code (1 : Nat) (Option.none : Option Jvm.ClassFile.FieldType), Jvm.Cond.code ({ cls := "java/util/ArrayList", name := "<init>", desc := "()V" } : Jvm.MethodName) jdk_38_method_2_code (1 : Nat) (Option.none : Option Jvm.ClassFile.FieldType), Jvm.Cond.code ({ cls := "java/util/AbstractList", name := "<init>", desc := "()V" } : Jvm.MethodName) jdk_39_method_1_code (1 : Nat) (Option.none : Option Jvm.ClassFile.FieldType), Jvm.Cond.code ({ cls := "java/util/AbstractCollection", name := "<init>", desc := "()V" } : Jvm.MethodName) jdk_22_method_1_code (1 : Nat) (Option.none : Option Jvm.ClassFile.FieldType), Jvm.Cond.code ({ cls := "com/example/measured_reasoner/measuredreasoner/Summary", name := "count", desc := "(Ljava/lang/String;J)Lcom/example/measured_reasoner/measuredreasoner/Summary;" } : Jvm.MethodName) prog_19_method_2_code (4 : Nat) (Option.some (Jvm.ClassFile.FieldType.object "com/example/measured_reasoner/measuredreasoner/Summary")), Jvm.Cond.code ({ cls := "java/lang/Long", name := "valueOf", desc := "(J)Ljava/lang/Long;" } : Jvm.MethodName) jdk_35_method_24_code (3 : Nat) (Option.some (Jvm.ClassFile.FieldType.object "java/lang/Long")), Jvm.Cond.code ({ cls := "com/example/measured_reasoner/measuredreasoner/Summary$Field", name := "<init>", desc := "(Ljava/lang/String;Ljava/lang/Number;)V" } : Jvm.MethodName) prog_20_method_1_code (3 : Nat) (Option.none : Option Jvm.ClassFile.FieldType), Jvm.Cond.code ({ cls := "java/lang/Record", name := "<init>", desc := "()V" } : Jvm.MethodName) jdk_30_method_1_code (1 : Nat) (Option.none : Option Jvm.ClassFile.FieldType), Jvm.Cond.code ({ cls := "java/util/ArrayList", name := "add", desc := "(Ljava/lang/Object;)Z" } : Jvm.MethodName) jdk_38_method_25_code (2 : Nat) (Option.some Jvm.ClassFile.FieldType.boolean), Jvm.Cond.code ({ cls := "java/util/ArrayList", name := "add", desc := "(Ljava/lang/Object;[Ljava/lang/Object;I)V" } : Jvm.MethodName) jdk_38_method_24_code (4 : Nat) (Option.none : Option Jvm.ClassFile.FieldType), Jvm.Cond.code ({ cls := "java/util/ArrayList", name := "grow", desc := "()[Ljava/lang/Object;" } : Jvm.MethodName) jdk_38_method_7_code (1 : Nat) (Option.some (Jvm.ClassFile.FieldType.array (Jvm.ClassFile.FieldType.object "java/lang/Object"))), Jvm.Cond.code ({ cls := "java/util/ArrayList", name := "grow", desc := "(I)[Ljava/lang/Object;" } : Jvm.MethodName) jdk_38_method_6_code (4 : Nat) (Option.some (Jvm.ClassFile.FieldType.array (Jvm.ClassFile.FieldType.object "java/lang/Object"))), Jvm.Cond.code ({ cls := "java/lang/Math", name := "max", desc := "(II)I" } : Jvm.MethodName) jdk_29_method_65_code (2 : Nat) (Option.some Jvm.ClassFile.FieldType.int), Jvm.Cond.code ({ cls := "java/lang/Long", name := "<init>", desc := "(J)V" } : Jvm.MethodName) jdk_35_method_26_code (3 : Nat) (Option.none : Option Jvm.ClassFile.FieldType), Jvm.Cond.code ({ cls := "java/lang/Number", name := "<init>", desc := "()V" } : Jvm.MethodName) jdk_18_method_1_code (1 : Nat) (Option.none : Option Jvm.ClassFile.FieldType), Jvm.Cond.code ({ cls := "com/example/measured_reasoner/measuredreasoner/Summary", name := "fields", desc := "()Ljava/util/List;" } : Jvm.MethodName) prog_19_method_4_code (1 : Nat) (Option.some (Jvm.ClassFile.FieldType.object "java/util/List")), Jvm.Cond.code ({ cls := "java/util/Collections", name := "unmodifiableList", desc := "(Ljava/util/List;)Ljava/util/List;" } : Jvm.MethodName) jdk_79_method_35_code (1 : Nat) (Option.some (Jvm.ClassFile.FieldType.object "java/util/List")), Jvm.Cond.code ({ cls := "java/util/Collections$UnmodifiableRandomAccessList", name := "<init>", desc := "(Ljava/util/List;)V" } : Jvm.MethodName) jdk_121_method_1_code (2 : Nat) (Option.none : Option Jvm.ClassFile.FieldType), Jvm.Cond.code ({ cls := "java/util/Collections$UnmodifiableList", name := "<init>", desc := "(Ljava/util/List;)V" } : Jvm.MethodName) jdk_120_method_1_code (2 : Nat) (Option.none : Option Jvm.ClassFile.FieldType), Jvm.Cond.code ({ cls := "java/util/Collections$UnmodifiableCollection", name := "<init>", desc := "(Ljava/util/Collection;)V" } : Jvm.MethodName) jdk_119_method_1_code (2 : Nat) (Option.none : Option Jvm.ClassFile.FieldType), Jvm.Cond.code ({ cls := "java/util/Collections$UnmodifiableCollection", name := "size", desc := "()I" } : Jvm.MethodName) jdk_119_method_2_code (1 : Nat) (Option.some Jvm.ClassFile.FieldType.int), Jvm.Cond.code ({ cls := "java/util/ArrayList", name := "size", desc := "()I" } : Jvm.MethodName) jdk_38_method_8_code (1 : Nat) (Option.some Jvm.ClassFile.FieldType.int), Jvm.Cond.code ({ cls := "java/util/Collections$UnmodifiableList", name := "get", desc := "(I)Ljava/lang/Object;" } : Jvm.MethodName) jdk_120_method_4_code (2 : Nat) (Option.some (Jvm.ClassFile.FieldType.object "java/lang/Object")), Jvm.Cond.code ({ cls := "java/util/ArrayList", name := "get", desc := "(I)Ljava/lang/Object;" } : Jvm.MethodName) jdk_38_method_20_code (2 : Nat) (Option.some (Jvm.ClassFile.FieldType.object "java/lang/Object")), Jvm.Cond.code ({ cls := "java/util/Objects", name := "checkIndex", desc := "(II)I" } : Jvm.MethodName) jdk_31_method_17_code (2 : Nat) (Option.some Jvm.ClassFile.FieldType.int), Jvm.Cond.code ({ cls := "jdk/internal/util/Preconditions", name := "checkIndex", desc := "(IILjava/util/function/BiFunction;)I" } : Jvm.MethodName) jdk_41_method_11_code (3 : Nat) (Option.some Jvm.ClassFile.FieldType.int), Jvm.Cond.code ({ cls := "java/util/ArrayList", name := "elementData", desc := "(I)Ljava/lang/Object;" } : Jvm.MethodName) jdk_38_method_18_code (2 : Nat) (Option.some (Jvm.ClassFile.FieldType.object "java/lang/Object")), Jvm.Cond.code ({ cls := "com/example/measured_reasoner/measuredreasoner/SummaryCountPinLaw", name := "isCount", desc := "(Lcom/example/measured_reasoner/measuredreasoner/Summary$Field;Ljava/lang/String;J)Z" } : Jvm.MethodName) method_2_code (5 : Nat) (Option.some Jvm.ClassFile.FieldType.boolean), Jvm.Cond.code ({ cls := "com/example/measured_reasoner/measuredreasoner/Summary$Field", name := "value", desc := "()Ljava/lang/Number;" } : Jvm.MethodName) prog_20_method_8_code (1 : Nat) (Option.some (Jvm.ClassFile.FieldType.object "java/lang/Number")), Jvm.Cond.code ({ cls := "com/example/measured_reasoner/measuredreasoner/Summary$Field", name := "name", desc := "()Ljava/lang/String;" } : Jvm.MethodName) prog_20_method_7_code (1 : Nat) (Option.some (Jvm.ClassFile.FieldType.object "java/lang/String")), Jvm.Cond.code ({ cls := "java/lang/String", name := "equals", desc := "(Ljava/lang/Object;)Z" } : Jvm.MethodName) jdk_42_method_66_code (3 : Nat) (Option.some Jvm.ClassFile.FieldType.boolean), Jvm.Cond.code ({ cls := "java/lang/Long", name := "longValue", desc := "()J" } : Jvm.MethodName) jdk_35_method_31_code (1 : Nat) (Option.some Jvm.ClassFile.FieldType.long), Jvm.Cond.code ({ cls := "java/lang/String", name := "<init>", desc := "([C)V" } : Jvm.MethodName) jdk_42_method_3_code (2 : Nat) (Option.none : Option Jvm.ClassFile.FieldType), Jvm.Cond.code ({ cls := "java/lang/String", name := "<init>", desc := "([CIILjava/lang/Void;)V" } : Jvm.MethodName) jdk_42_method_149_code (6 : Nat) (Option.none : Option Jvm.ClassFile.FieldType), Jvm.Cond.code ({ cls := "java/lang/StringUTF16", name := "compress", desc := "([CII)[B" } : Jvm.MethodName) jdk_52_method_16_code (6 : Nat) (Option.some (Jvm.ClassFile.FieldType.array Jvm.ClassFile.FieldType.byte)), Jvm.Cond.code ({ cls := "java/lang/StringUTF16", name := "compress", desc := "([CI[BII)I" } : Jvm.MethodName) jdk_52_method_21_code (7 : Nat) (Option.some Jvm.ClassFile.FieldType.int), Jvm.Cond.code ({ cls := "java/lang/StringUTF16", name := "coderFromArrayLen", desc := "([BI)B" } : Jvm.MethodName) jdk_52_method_15_code (2 : Nat) (Option.some Jvm.ClassFile.FieldType.byte), Jvm.Cond.code ({ cls := "com/example/measured_reasoner/measuredreasoner/Summary", name := "mean", desc := "(Ljava/lang/String;D)Lcom/example/measured_reasoner/measuredreasoner/Summary;" } : Jvm.MethodName) prog_19_method_3_code (4 : Nat) (Option.some (Jvm.ClassFile.FieldType.object "com/example/measured_reasoner/measuredreasoner/Summary")), Jvm.Cond.code ({ cls := "java/lang/Double", name := "valueOf", desc := "(D)Ljava/lang/Double;" } : Jvm.MethodName) jdk_117_method_4_code (2 : Nat) (Option.some (Jvm.ClassFile.FieldType.object "java/lang/Double")), Jvm.Cond.code ({ cls := "java/lang/Double", name := "<init>", desc := "(D)V" } : Jvm.MethodName) jdk_117_method_9_code (3 : Nat) (Option.none : Option Jvm.ClassFile.FieldType)]
set_option maxRecDepth 65536 in
theorem codes_eq : words1.filter isCode = codes1 := rfl
theorem w_codes : ∀ c ∈ words1.filter isCode, c.before args0 about1 = true := by
  rw [codes_eq]
  intro c hc
  simp only [codes1, List.mem_cons, List.not_mem_nil, or_false] at hc
  rcases hc with rfl | rfl | rfl | rfl | rfl | rfl | rfl | rfl | rfl | rfl | rfl | rfl | rfl | rfl | rfl | rfl | rfl | rfl | rfl | rfl | rfl | rfl | rfl | rfl | rfl | rfl | rfl | rfl | rfl | rfl | rfl | rfl | rfl | rfl | rfl | rfl | rfl | rfl | rfl | rfl | rfl | rfl | rfl | rfl | rfl | rfl
  · exact w_c0
  · exact w_c1
  · exact w_c2
  · exact w_c3
  · exact w_c4
  · exact w_c5
  · exact w_c6
  · exact w_c7
  · exact w_c8
  · exact w_c9
  · exact w_c10
  · exact w_c11
  · exact w_c12
  · exact w_c13
  · exact w_c14
  · exact w_c15
  · exact w_c16
  · exact w_c17
  · exact w_c18
  · exact w_c19
  · exact w_c20
  · exact w_c21
  · exact w_c22
  · exact w_c23
  · exact w_c24
  · exact w_c25
  · exact w_c26
  · exact w_c27
  · exact w_c28
  · exact w_c29
  · exact w_c30
  · exact w_c31
  · exact w_c32
  · exact w_c33
  · exact w_c34
  · exact w_c35
  · exact w_c36
  · exact w_c37
  · exact w_c38
  · exact w_c39
  · exact w_c40
  · exact w_c41
  · exact w_c42
  · exact w_c43
  · exact w_c44
  · exact w_c45
set_option maxRecDepth 65536 in
theorem w_t1 : (words1.take 24).all (fun c => isCode c || c.before args0 about1) = true := by decide +kernel
set_option maxRecDepth 65536 in
theorem w_t2 : ((words1.drop 24).take 24).all (fun c => isCode c || c.before args0 about1) = true := by decide +kernel
set_option maxRecDepth 65536 in
theorem w_t3 : (((words1.drop 24).drop 24).take 24).all (fun c => isCode c || c.before args0 about1) = true := by decide +kernel
set_option maxRecDepth 65536 in
theorem w_t4 : ((((words1.drop 24).drop 24).drop 24).take 24).all (fun c => isCode c || c.before args0 about1) = true := by decide +kernel
set_option maxRecDepth 65536 in
theorem w_t5 : (((((words1.drop 24).drop 24).drop 24).drop 24).take 24).all (fun c => isCode c || c.before args0 about1) = true := by decide +kernel
set_option maxRecDepth 65536 in
theorem w_t6 : ((((((words1.drop 24).drop 24).drop 24).drop 24).drop 24).take 24).all (fun c => isCode c || c.before args0 about1) = true := by decide +kernel
set_option maxRecDepth 65536 in
theorem w_t7 : (((((((words1.drop 24).drop 24).drop 24).drop 24).drop 24).drop 24).take 24).all (fun c => isCode c || c.before args0 about1) = true := by decide +kernel
set_option maxRecDepth 65536 in
theorem w_t8 : ((((((((words1.drop 24).drop 24).drop 24).drop 24).drop 24).drop 24).drop 24).take 24).all (fun c => isCode c || c.before args0 about1) = true := by decide +kernel
set_option maxRecDepth 65536 in
theorem w_t9 : (((((((((words1.drop 24).drop 24).drop 24).drop 24).drop 24).drop 24).drop 24).drop 24).take 24).all (fun c => isCode c || c.before args0 about1) = true := by decide +kernel
set_option maxRecDepth 65536 in
theorem w_t10 : ((((((((((words1.drop 24).drop 24).drop 24).drop 24).drop 24).drop 24).drop 24).drop 24).drop 24).take 24).all (fun c => isCode c || c.before args0 about1) = true := by decide +kernel
set_option maxRecDepth 65536 in
theorem w_t11 : (((((((((((words1.drop 24).drop 24).drop 24).drop 24).drop 24).drop 24).drop 24).drop 24).drop 24).drop 24).take 24).all (fun c => isCode c || c.before args0 about1) = true := by decide +kernel
set_option maxRecDepth 65536 in
theorem w_t12 : ((((((((((((words1.drop 24).drop 24).drop 24).drop 24).drop 24).drop 24).drop 24).drop 24).drop 24).drop 24).drop 24).take 24).all (fun c => isCode c || c.before args0 about1) = true := by decide +kernel
set_option maxRecDepth 65536 in
theorem w_t13 : ((((((((((((words1.drop 24).drop 24).drop 24).drop 24).drop 24).drop 24).drop 24).drop 24).drop 24).drop 24).drop 24).drop 24).all (fun c => isCode c || c.before args0 about1) = true := by decide +kernel
theorem w_tables : (allAtoms (Jvm.Cond.code x code maxLocals ret :: tables_1)).before args0 about1 = true := by
  rw [allAtoms_all]
  show words1.all (fun c => c.before args0 about1) = true
  refine all_split ?_ w_codes
  rw [← List.take_append_drop 24 words1, List.all_append, w_t1, ← List.take_append_drop 24 (words1.drop 24), List.all_append, w_t2, ← List.take_append_drop 24 ((words1.drop 24).drop 24), List.all_append, w_t3, ← List.take_append_drop 24 (((words1.drop 24).drop 24).drop 24), List.all_append, w_t4, ← List.take_append_drop 24 ((((words1.drop 24).drop 24).drop 24).drop 24), List.all_append, w_t5, ← List.take_append_drop 24 (((((words1.drop 24).drop 24).drop 24).drop 24).drop 24), List.all_append, w_t6, ← List.take_append_drop 24 ((((((words1.drop 24).drop 24).drop 24).drop 24).drop 24).drop 24), List.all_append, w_t7, ← List.take_append_drop 24 (((((((words1.drop 24).drop 24).drop 24).drop 24).drop 24).drop 24).drop 24), List.all_append, w_t8, ← List.take_append_drop 24 ((((((((words1.drop 24).drop 24).drop 24).drop 24).drop 24).drop 24).drop 24).drop 24), List.all_append, w_t9, ← List.take_append_drop 24 (((((((((words1.drop 24).drop 24).drop 24).drop 24).drop 24).drop 24).drop 24).drop 24).drop 24), List.all_append, w_t10, ← List.take_append_drop 24 ((((((((((words1.drop 24).drop 24).drop 24).drop 24).drop 24).drop 24).drop 24).drop 24).drop 24).drop 24), List.all_append, w_t11, ← List.take_append_drop 24 (((((((((((words1.drop 24).drop 24).drop 24).drop 24).drop 24).drop 24).drop 24).drop 24).drop 24).drop 24).drop 24), List.all_append, w_t12, w_t13]
  rfl
set_option maxRecDepth 65536 in
theorem w_rest : rest_1_c.before args0 about1 = true := by decide +kernel
set_option maxRecDepth 65536 in
theorem w_case : (Jvm.Cond.and given_1 narrow_1).before args0 about1 = true := by decide +kernel
theorem w_applies : (headSpec (Jvm.Cond.code x code maxLocals ret :: tables_1) room_1).applies x e0.platform about1 = true :=
  (Spec.applies_iff w_frames).mpr ⟨w_running, w_runnable, w_alone, w_named, w_hears, w_ripe, w_room, w_tables⟩
set_option maxRecDepth 65536 in
theorem atStart : AtStart classFile x code maxLocals ret World_1 tables_1 room_1 Calls_1 rest_1 Pre_1 launch0 p0 e0 about1 theMethod args0 below0 :=
  ⟨lists_1, trivial, launch0.admits_env _ _ _, launch0.least_env, fairChoices_fair.cas, fairChoices_fair.clock, w_frames, w_args, w_heap, w_applies, ⟨⟨18, k18, 4, by decide +kernel, rfl, rfl, _, rfl, rfl⟩, ⟨⟨27, k27, 5, by decide +kernel, rfl, rfl, _, rfl, rfl⟩, ⟨⟨28, k28, 6, by decide +kernel, rfl, rfl, _, rfl, rfl⟩, trivial⟩⟩⟩, w_rest, w_case⟩
end start1
theorem witness_1 : WitnessClaimed_1 := ⟨start1.p0, start1.e0, start1.about1, start1.theMethod, start1.args0, start1.below0, start1.atStart⟩
end Jvm.Pilot.@@N@@
