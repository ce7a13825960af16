import JvmDerived
import JvmDerived.Pilot.@@N@@Statement
import JvmDerived.Pilot.@@N@@Code
set_option linter.unusedVariables false
set_option linter.unusedSimpArgs false
namespace Jvm.RoadKit
open Sem ClassFile Op Lib Jvm.Stand Jvm.Free Jvm.LawKit
section New
variable {p : Program} {l : Launch} {e : Env} {R : Room} {s : State} {m : MethodId} {args : Array Value} {below : List Frame} {meth : Method} {c : Code} {T : State} {locs : List Loc} {cells slots : Nat}
theorem retI (X : Stand p l e R s m args below meth c T locs cells slots) (hx : p.tables.exec = Jvm.exec) {pc : Nat} {Ls : Array Slot} {z : Int32} {rest : List Value} (hret : meth.sig.returnType = some .int) (hd : decode c.code pc = .ok (.ireturn, 1)) {fs : List Frame}
    (hl : ∀ (f : JFrame) (acts : List Action), f.method = m → f.locked = none → f.entered = [] → (doReturn e (T.setTop f) acts (some (.int z))).1 = T.setFrames fs) : Steps p.tables e below (T.setTop (mkF m pc Ls (.int z :: rest))) (T.setFrames fs) := by
  have hm' : T.vm.method? m = some meth := X.method'
  have hn : narrow .int (.int z) = .int z := rfl
  show Steps p.tables e below (T.setTop { method := m, pc := pc, locals := Ls, stack := _ :: rest, locked := none }) _
  jvm_step X.here [X.here.top, hx, hd, hm', hret, hn]
  first | (intro acts; rw [hl _ acts rfl rfl rfl]) | rw [hl _ _ rfl rfl rfl]
  exact Steps.refl _
end New
end Jvm.RoadKit
namespace Jvm.Pilot.@@N@@
open Jvm Jvm.ClassFile Sem Op Lib Jvm.Free Jvm.Stand Jvm.LawKit Jvm.RoadKit Bundle Jvm.Pilot.@@N@@.Jvm.D
section Own
variable {p : Program} {l : Launch} {e : Env} {R : Room} {s : State} {m : MethodId} {args : Array Value} {below : List Frame} {meth : Method} {c : Code} {T : State} {Z : State} {h : Heap} {n0 kc ks cells slots ml pc pc' pt : Nat} {Q : Option Value → Heap → Prop} {bc : ByteArray} {y : MethodName} {rt : Option FieldType} {L L' : Array Slot} {S : List Value} {a0 : Array Value}
def oG (p : Program) (e : Env) (below : List Frame) (s : State) (n0 kc ks : Nat) (Q : Option Value → Heap → Prop) (U : State) : Prop :=
  ∃ s₂ o, Steps p.tables e below U s₂ ∧ s₂.status = .running ∧ Ended s₂ below o ∧ ∃ v L, o = .returned v ∧ (Q v s₂.heap ∧ Fr n0 L) ∧ FrameEnd s o s₂ L kc ks
def oH (p : Program) (l : Launch) (e : Env) (R : Room) (s : State) (m : MethodId) (args : Array Value) (below : List Frame) (meth : Method) (c : Code) (bc : ByteArray) (ml : Nat) (y : MethodName) (rt : Option FieldType) (Z : State) (n0 : Nat) (T : State) (h : Heap) (cells slots : Nat) : Prop :=
  ∃ locs, Stand p l e R s m args below meth c T locs cells slots ∧ T.heap = h ∧ Fr n0 locs ∧ p.tables.exec = Jvm.exec ∧ c.code = bc ∧ c.maxLocals = ml ∧ Z.Warmed39 s.vm ∧ s.vm.findClass y.cls = some m.cls ∧ meth.name = y.name ∧ meth.sig.returnType = rt ∧ meth.locks = false ∧ n0 ≤ s.heap.size
theorem oG.go {U U' : State} (f : ∀ t, Steps p.tables e below U' t → Steps p.tables e below U t) (k : oG p e below s n0 kc ks Q U') : oG p e below s n0 kc ks Q U := by
  obtain ⟨s2, o, h1, r⟩ := k
  exact ⟨s2, o, f _ h1, r⟩
theorem oG.mono {U : State} {Q' : Option Value → Heap → Prop} (k : oG p e below s n0 kc ks Q' U) (f : ∀ v h, Q' v h → Q v h) : oG p e below s n0 kc ks Q U := by
  obtain ⟨s2, o, h1, h2, h3, v, L, h4, ⟨h5, h6⟩, h7⟩ := k
  exact ⟨s2, o, h1, h2, h3, v, L, h4, ⟨f _ _ h5, h6⟩, h7⟩
theorem oH.le (H : oH p l e R s m args below meth c bc ml y rt Z n0 T h cells slots) : n0 ≤ h.size := by
  obtain ⟨locs, X, eT, N, -, -, -, -, -, -, -, -, hn⟩ := H
  have q : s.heap.size ≤ T.heap.size := X.same.2.1
  rw [← eT]; exact Nat.le_trans hn q
theorem oH.more {cells' slots' : Nat} (H : oH p l e R s m args below meth c bc ml y rt Z n0 T h cells slots) (hc : cells ≤ cells') (hs : slots ≤ slots') : oH p l e R s m args below meth c bc ml y rt Z n0 T h cells' slots' := by
  obtain ⟨locs, X, r⟩ := H
  exact ⟨locs, X.more hc hs, r⟩
/-- a method's contract: called with these arguments at the heap h0 it comes back with Q, within the room -/
def oC (l : Launch) (Z : State) (n0 : Nat) (y : MethodName) (bc : ByteArray) (ml : Nat) (rt : Option FieldType) (rm : Room) (kc ks : Nat) (as' : Array Value) (h0 : Heap) (Q : Option Value → Heap → Prop) : Prop :=
  ∀ ws : List Jvm.Cond, MetFree l y (head1 (Jvm.Cond.code y bc ml rt :: ws) rm) (fun a U => a = as' ∧ Z.Warmed39 U.vm ∧ U.heap = h0) (fun _ _ _ _ _ => True) (fun _ U o U' => ∃ v L, o = .returned v ∧ (Q v U'.heap ∧ Fr n0 L) ∧ FrameEnd U o U' L kc ks)
theorem oC.of {rm : Room} {as' : Array Value} {h0 : Heap} (hpl : plainFor y = true) (hn : n0 ≤ h0.size) (hef : ∀ m, entryFrame m as' ml = mkF m 0 L [])
    (body : ∀ (p : Program) (e : Env) (s : State) (m : MethodId) (below : List Frame) (meth : Method) (c : Code) (T : State), oH p l e rm s m as' below meth c bc ml y rt Z n0 T h0 0 0 → oG p e below s n0 kc ks Q (T.setTop (mkF m 0 L []))) : oC l Z n0 y bc ml rt rm kc ks as' h0 Q := by
  intro ws
  refine MetFree.of_bodySF hpl hisR ?_
  intro p e s m args below meth c s₁ Bd hml0 hP hK
  obtain ⟨rfl, hZ, hh⟩ := hP
  have X0 : Stand p l e rm s m args below meth c s₁ [] 0 0 := Stand.of_body Bd
  have e0 : s₁.heap = h0 := by rw [← hh, Bd.state]; rfl
  have k := body p e s m below meth c s₁ ⟨[], X0, e0, Fr.nil n0, Bd.exec, Bd.bytes, hml0, hZ, findClass_of_methodNamed Bd.named, (name_of_methodNamed Bd.named Bd.method).1, Bd.returns, Bd.notSynchronized, by rw [hh]; exact hn⟩
  rw [hef m]; exact k
theorem oC.mono {rm : Room} {as' : Array Value} {h0 : Heap} {Q' : Option Value → Heap → Prop} (k : oC l Z n0 y bc ml rt rm kc ks as' h0 Q') (f : ∀ v h, Q' v h → Q v h) : oC l Z n0 y bc ml rt rm kc ks as' h0 Q := by
  intro ws p e h1 h2 h3 s m args below h4 h5 h6 h7
  obtain ⟨n, o, a1, a2, a3, v, L, a4, ⟨a5, a6⟩, a7⟩ := k ws p e h1 h2 h3 s m args below h4 h5 h6 h7
  exact ⟨n, o, a1, a2, a3, v, L, a4, ⟨f _ _ a5, a6⟩, a7⟩
theorem o_aloadN (H : oH p l e R s m args below meth c bc ml y rt Z n0 T h cells slots) {k : Fin 4} {v : Value} (hl : L[k.val]? = some (.val v)) (hv : v.isRef = true) (hd : decode bc pc = .ok (.aload_n k, 1)) (hp : pc + 1 = pc') (k : oG p e below s n0 kc ks Q (T.setTop (mkF m pc' L (v :: S)))) : oG p e below s n0 kc ks Q (T.setTop (mkF m pc L S)) := by
  obtain ⟨locs, X, eT, N, hx, hby, hml, hZ, hown, hnm, hret, hlk, hn⟩ := H
  subst hp
  exact oG.go (fun t hr => XS.aloadN X.here hx rfl (hb hby hd) hl hv hr) k
theorem o_iloadN (H : oH p l e R s m args below meth c bc ml y rt Z n0 T h cells slots) {k : Fin 4} {v : Int32} (hl : L[k.val]? = some (.val (.int v))) (hd : decode bc pc = .ok (.iload_n k, 1)) (hp : pc + 1 = pc') (k : oG p e below s n0 kc ks Q (T.setTop (mkF m pc' L (.int v :: S)))) : oG p e below s n0 kc ks Q (T.setTop (mkF m pc L S)) := by
  obtain ⟨locs, X, eT, N, hx, hby, hml, hZ, hown, hnm, hret, hlk, hn⟩ := H
  subst hp
  exact oG.go (fun t hr => XS.iloadN X.here hx rfl (hb hby hd) hl hr) k
theorem o_lloadN (H : oH p l e R s m args below meth c bc ml y rt Z n0 T h cells slots) {k : Fin 4} {v : Int64} (hl : L[k.val]? = some (.val (.long v))) (hd : decode bc pc = .ok (.lload_n k, 1)) (hp : pc + 1 = pc') (k : oG p e below s n0 kc ks Q (T.setTop (mkF m pc' L (.long v :: S)))) : oG p e below s n0 kc ks Q (T.setTop (mkF m pc L S)) := by
  obtain ⟨locs, X, eT, N, hx, hby, hml, hZ, hown, hnm, hret, hlk, hn⟩ := H
  subst hp
  exact oG.go (fun t hr => XT.lloadN X.here hx rfl (hb hby hd) hl hr) k
theorem o_astoreN (H : oH p l e R s m args below meth c bc ml y rt Z n0 T h cells slots) {k : Fin 4} {v : Value} (hl : storeLocals L k.val v = some L') (hv : v.isRef = true) (hd : decode bc pc = .ok (.astore_n k, 1)) (hp : pc + 1 = pc') (k : oG p e below s n0 kc ks Q (T.setTop (mkF m pc' L' S))) : oG p e below s n0 kc ks Q (T.setTop (mkF m pc L (v :: S))) := by
  obtain ⟨locs, X, eT, N, hx, hby, hml, hZ, hown, hnm, hret, hlk, hn⟩ := H
  subst hp
  exact oG.go (fun t hr => XS.astoreN X.here hx rfl (hb hby hd) rfl hv hl hr) k
theorem o_istoreN (H : oH p l e R s m args below meth c bc ml y rt Z n0 T h cells slots) {k : Fin 4} {v : Int32} (hl : storeLocals L k.val (.int v) = some L') (hd : decode bc pc = .ok (.istore_n k, 1)) (hp : pc + 1 = pc') (k : oG p e below s n0 kc ks Q (T.setTop (mkF m pc' L' S))) : oG p e below s n0 kc ks Q (T.setTop (mkF m pc L (.int v :: S))) := by
  obtain ⟨locs, X, eT, N, hx, hby, hml, hZ, hown, hnm, hret, hlk, hn⟩ := H
  subst hp
  exact oG.go (fun t hr => XS.istoreN X.here hx rfl (hb hby hd) rfl hl hr) k
theorem o_lstoreN (H : oH p l e R s m args below meth c bc ml y rt Z n0 T h cells slots) {k : Fin 4} {v : Int64} (hl : storeLocals L k.val (.long v) = some L') (hd : decode bc pc = .ok (.lstore_n k, 1)) (hp : pc + 1 = pc') (k : oG p e below s n0 kc ks Q (T.setTop (mkF m pc' L' S))) : oG p e below s n0 kc ks Q (T.setTop (mkF m pc L (.long v :: S))) := by
  obtain ⟨locs, X, eT, N, hx, hby, hml, hZ, hown, hnm, hret, hlk, hn⟩ := H
  subst hp
  exact oG.go (fun t hr => XT.lstoreN X.here hx rfl (hb hby hd) rfl hl hr) k
theorem o_aload (H : oH p l e R s m args below meth c bc ml y rt Z n0 T h cells slots) {k : Nat} {v : Value} (hl : L[k]? = some (.val v)) (hv : v.isRef = true) (hd : decode bc pc = .ok (.aload k, 2)) (hp : pc + 2 = pc') (k : oG p e below s n0 kc ks Q (T.setTop (mkF m pc' L (v :: S)))) : oG p e below s n0 kc ks Q (T.setTop (mkF m pc L S)) := by
  obtain ⟨locs, X, eT, N, hx, hby, hml, hZ, hown, hnm, hret, hlk, hn⟩ := H
  subst hp
  exact oG.go (fun t hr => XS.aload X.here hx rfl (hb hby hd) hl hv hr) k
theorem o_iload (H : oH p l e R s m args below meth c bc ml y rt Z n0 T h cells slots) {k : Nat} {v : Int32} (hl : L[k]? = some (.val (.int v))) (hd : decode bc pc = .ok (.iload k, 2)) (hp : pc + 2 = pc') (k : oG p e below s n0 kc ks Q (T.setTop (mkF m pc' L (.int v :: S)))) : oG p e below s n0 kc ks Q (T.setTop (mkF m pc L S)) := by
  obtain ⟨locs, X, eT, N, hx, hby, hml, hZ, hown, hnm, hret, hlk, hn⟩ := H
  subst hp
  exact oG.go (fun t hr => XS.iload X.here hx rfl (hb hby hd) hl hr) k
theorem o_lload (H : oH p l e R s m args below meth c bc ml y rt Z n0 T h cells slots) {k : Nat} {v : Int64} (hl : L[k]? = some (.val (.long v))) (hd : decode bc pc = .ok (.lload k, 2)) (hp : pc + 2 = pc') (k : oG p e below s n0 kc ks Q (T.setTop (mkF m pc' L (.long v :: S)))) : oG p e below s n0 kc ks Q (T.setTop (mkF m pc L S)) := by
  obtain ⟨locs, X, eT, N, hx, hby, hml, hZ, hown, hnm, hret, hlk, hn⟩ := H
  subst hp
  exact oG.go (fun t hr => XT.lload X.here hx rfl (hb hby hd) hl hr) k
theorem o_astore (H : oH p l e R s m args below meth c bc ml y rt Z n0 T h cells slots) {k : Nat} {v : Value} (hl : storeLocals L k v = some L') (hv : v.isRef = true) (hd : decode bc pc = .ok (.astore k, 2)) (hp : pc + 2 = pc') (k : oG p e below s n0 kc ks Q (T.setTop (mkF m pc' L' S))) : oG p e below s n0 kc ks Q (T.setTop (mkF m pc L (v :: S))) := by
  obtain ⟨locs, X, eT, N, hx, hby, hml, hZ, hown, hnm, hret, hlk, hn⟩ := H
  subst hp
  exact oG.go (fun t hr => XS.astore X.here hx rfl (hb hby hd) rfl hv hl hr) k
theorem o_istore (H : oH p l e R s m args below meth c bc ml y rt Z n0 T h cells slots) {k : Nat} {v : Int32} (hl : storeLocals L k (.int v) = some L') (hd : decode bc pc = .ok (.istore k, 2)) (hp : pc + 2 = pc') (k : oG p e below s n0 kc ks Q (T.setTop (mkF m pc' L' S))) : oG p e below s n0 kc ks Q (T.setTop (mkF m pc L (.int v :: S))) := by
  obtain ⟨locs, X, eT, N, hx, hby, hml, hZ, hown, hnm, hret, hlk, hn⟩ := H
  subst hp
  exact oG.go (fun t hr => XS.istore X.here hx rfl (hb hby hd) rfl hl hr) k
theorem o_lstore (H : oH p l e R s m args below meth c bc ml y rt Z n0 T h cells slots) {k : Nat} {v : Int64} (hl : storeLocals L k (.long v) = some L') (hd : decode bc pc = .ok (.lstore k, 2)) (hp : pc + 2 = pc') (k : oG p e below s n0 kc ks Q (T.setTop (mkF m pc' L' S))) : oG p e below s n0 kc ks Q (T.setTop (mkF m pc L (.long v :: S))) := by
  obtain ⟨locs, X, eT, N, hx, hby, hml, hZ, hown, hnm, hret, hlk, hn⟩ := H
  subst hp
  exact oG.go (fun t hr => XT.lstore X.here hx rfl (hb hby hd) rfl hl hr) k
theorem o_dloadN (H : oH p l e R s m args below meth c bc ml y rt Z n0 T h cells slots) {k : Fin 4} {v : UInt64} (hl : L[k.val]? = some (.val (.double v))) (hd : decode bc pc = .ok (.dload_n k, 1)) (hp : pc + 1 = pc') (k : oG p e below s n0 kc ks Q (T.setTop (mkF m pc' L (.double v :: S)))) : oG p e below s n0 kc ks Q (T.setTop (mkF m pc L S)) := by
  obtain ⟨locs, X, eT, N, hx, hby, hml, hZ, hown, hnm, hret, hlk, hn⟩ := H
  subst hp
  exact oG.go (fun t hr => XS.dloadN X.here hx rfl (hb hby hd) hl hr) k
theorem o_dstoreN (H : oH p l e R s m args below meth c bc ml y rt Z n0 T h cells slots) {k : Fin 4} {v : UInt64} (hl : storeLocals L k.val (.double v) = some L') (hd : decode bc pc = .ok (.dstore_n k, 1)) (hp : pc + 1 = pc') (k : oG p e below s n0 kc ks Q (T.setTop (mkF m pc' L' S))) : oG p e below s n0 kc ks Q (T.setTop (mkF m pc L (.double v :: S))) := by
  obtain ⟨locs, X, eT, N, hx, hby, hml, hZ, hown, hnm, hret, hlk, hn⟩ := H
  subst hp
  exact oG.go (fun t hr => XS.dstoreN X.here hx rfl (hb hby hd) rfl hl hr) k
theorem o_dload (H : oH p l e R s m args below meth c bc ml y rt Z n0 T h cells slots) {k : Nat} {v : UInt64} (hl : L[k]? = some (.val (.double v))) (hd : decode bc pc = .ok (.dload k, 2)) (hp : pc + 2 = pc') (k : oG p e below s n0 kc ks Q (T.setTop (mkF m pc' L (.double v :: S)))) : oG p e below s n0 kc ks Q (T.setTop (mkF m pc L S)) := by
  obtain ⟨locs, X, eT, N, hx, hby, hml, hZ, hown, hnm, hret, hlk, hn⟩ := H
  subst hp
  exact oG.go (fun t hr => XS.dload X.here hx rfl (hb hby hd) hl hr) k
theorem o_dstore (H : oH p l e R s m args below meth c bc ml y rt Z n0 T h cells slots) {k : Nat} {v : UInt64} (hl : storeLocals L k (.double v) = some L') (hd : decode bc pc = .ok (.dstore k, 2)) (hp : pc + 2 = pc') (k : oG p e below s n0 kc ks Q (T.setTop (mkF m pc' L' S))) : oG p e below s n0 kc ks Q (T.setTop (mkF m pc L (.double v :: S))) := by
  obtain ⟨locs, X, eT, N, hx, hby, hml, hZ, hown, hnm, hret, hlk, hn⟩ := H
  subst hp
  exact oG.go (fun t hr => XS.dstore X.here hx rfl (hb hby hd) rfl hl hr) k
theorem o_dconst0 (H : oH p l e R s m args below meth c bc ml y rt Z n0 T h cells slots)   (hd : decode bc pc = .ok (.dconst 0, 1)) (hp : pc + 1 = pc') (k : oG p e below s n0 kc ks Q (T.setTop (mkF m pc' L (.double 0 :: S)))) : oG p e below s n0 kc ks Q (T.setTop (mkF m pc L S)) := by
  obtain ⟨locs, X, eT, N, hx, hby, hml, hZ, hown, hnm, hret, hlk, hn⟩ := H
  subst hp
  exact oG.go (fun t hr => XS.dconst0 X.here hx rfl (hb hby hd) rfl hr) k
theorem o_i2d (H : oH p l e R s m args below meth c bc ml y rt Z n0 T h cells slots) {x : Int32}  (hd : decode bc pc = .ok (.i2d, 1)) (hp : pc + 1 = pc') (k : oG p e below s n0 kc ks Q (T.setTop (mkF m pc' L (.double (FP.i2d x) :: S)))) : oG p e below s n0 kc ks Q (T.setTop (mkF m pc L (.int x :: S))) := by
  obtain ⟨locs, X, eT, N, hx, hby, hml, hZ, hown, hnm, hret, hlk, hn⟩ := H
  subst hp
  exact oG.go (fun t hr => XS.i2dS X.here hx rfl (hb hby hd) rfl rfl hr) k
theorem o_ddiv (H : oH p l e R s m args below meth c bc ml y rt Z n0 T h cells slots) {x z : UInt64} (hnn : Jvm.Free.Fl.NoNaN64 (FP.ddiv x z)) (hd : decode bc pc = .ok (.ddiv, 1)) (hp : pc + 1 = pc') (k : oG p e below s n0 kc ks Q (T.setTop (mkF m pc' L (.double (FP.ddiv x z) :: S)))) : oG p e below s n0 kc ks Q (T.setTop (mkF m pc L (.double z :: .double x :: S))) := by
  obtain ⟨locs, X, eT, N, hx, hby, hml, hZ, hown, hnm, hret, hlk, hn⟩ := H
  subst hp
  exact oG.go (fun t hr => XS.ddivS X.here hx rfl (hb hby hd) rfl hnn rfl hr) k
theorem o_dcmpl (H : oH p l e R s m args below meth c bc ml y rt Z n0 T h cells slots) {x z : UInt64}  (hd : decode bc pc = .ok (.dcmp .l, 1)) (hp : pc + 1 = pc') (k : oG p e below s n0 kc ks Q (T.setTop (mkF m pc' L (.int (cmpValue (FP.dcmp x z) .l) :: S)))) : oG p e below s n0 kc ks Q (T.setTop (mkF m pc L (.double z :: .double x :: S))) := by
  obtain ⟨locs, X, eT, N, hx, hby, hml, hZ, hown, hnm, hret, hlk, hn⟩ := H
  subst hp
  exact oG.go (fun t hr => XS.dcmpS X.here hx rfl (hb hby hd) rfl rfl hr) k
theorem o_iconst (H : oH p l e R s m args below meth c bc ml y rt Z n0 T h cells slots) {i : Int} (v : Int32) (hv : Int32.ofInt i = v) (hd : decode bc pc = .ok (.iconst i, 1)) (hp : pc + 1 = pc') (k : oG p e below s n0 kc ks Q (T.setTop (mkF m pc' L (.int v :: S)))) : oG p e below s n0 kc ks Q (T.setTop (mkF m pc L S)) := by
  obtain ⟨locs, X, eT, N, hx, hby, hml, hZ, hown, hnm, hret, hlk, hn⟩ := H
  subst hp
  exact oG.go (fun t hr => XT.iconstV X.here hx rfl v (hb hby hd) hv hr) k
theorem o_bipush (H : oH p l e R s m args below meth c bc ml y rt Z n0 T h cells slots) {i : Int} (v : Int32) (hv : (Int8.ofInt i).toInt32 = v) (hd : decode bc pc = .ok (.bipush i, 2)) (hp : pc + 2 = pc') (k : oG p e below s n0 kc ks Q (T.setTop (mkF m pc' L (.int v :: S)))) : oG p e below s n0 kc ks Q (T.setTop (mkF m pc L S)) := by
  obtain ⟨locs, X, eT, N, hx, hby, hml, hZ, hown, hnm, hret, hlk, hn⟩ := H
  subst hp
  exact oG.go (fun t hr => XT.bipushV X.here hx rfl v (hb hby hd) hv hr) k
theorem o_sipush (H : oH p l e R s m args below meth c bc ml y rt Z n0 T h cells slots) {i : Int} (v : Int32) (hv : (Int16.ofInt i).toInt32 = v) (hd : decode bc pc = .ok (.sipush i, 3)) (hp : pc + 3 = pc') (k : oG p e below s n0 kc ks Q (T.setTop (mkF m pc' L (.int v :: S)))) : oG p e below s n0 kc ks Q (T.setTop (mkF m pc L S)) := by
  obtain ⟨locs, X, eT, N, hx, hby, hml, hZ, hown, hnm, hret, hlk, hn⟩ := H
  subst hp
  exact oG.go (fun t hr => XT.sipushV X.here hx rfl v (hb hby hd) hv hr) k
theorem o_lconst (H : oH p l e R s m args below meth c bc ml y rt Z n0 T h cells slots) {i : Fin 2} (v : Int64) (hv : Int64.ofNat i = v) (hd : decode bc pc = .ok (.lconst i, 1)) (hp : pc + 1 = pc') (k : oG p e below s n0 kc ks Q (T.setTop (mkF m pc' L (.long v :: S)))) : oG p e below s n0 kc ks Q (T.setTop (mkF m pc L S)) := by
  obtain ⟨locs, X, eT, N, hx, hby, hml, hZ, hown, hnm, hret, hlk, hn⟩ := H
  subst hp
  exact oG.go (fun t hr => XT.lconstV X.here hx rfl v (hb hby hd) hv hr) k
theorem o_aconst_null (H : oH p l e R s m args below meth c bc ml y rt Z n0 T h cells slots)   (hd : decode bc pc = .ok (.aconst_null, 1)) (hp : pc + 1 = pc') (k : oG p e below s n0 kc ks Q (T.setTop (mkF m pc' L (.null :: S)))) : oG p e below s n0 kc ks Q (T.setTop (mkF m pc L S)) := by
  obtain ⟨locs, X, eT, N, hx, hby, hml, hZ, hown, hnm, hret, hlk, hn⟩ := H
  subst hp
  exact oG.go (fun t hr => XS.aconstNull X.here hx rfl (hb hby hd) hr) k
theorem o_iadd (H : oH p l e R s m args below meth c bc ml y rt Z n0 T h cells slots) {x z : Int32}  (hd : decode bc pc = .ok (.iadd, 1)) (hp : pc + 1 = pc') (k : oG p e below s n0 kc ks Q (T.setTop (mkF m pc' L (.int (x + z) :: S)))) : oG p e below s n0 kc ks Q (T.setTop (mkF m pc L (.int z :: .int x :: S))) := by
  obtain ⟨locs, X, eT, N, hx, hby, hml, hZ, hown, hnm, hret, hlk, hn⟩ := H
  subst hp
  exact oG.go (fun t hr => XS.iadd X.here hx rfl (hb hby hd) rfl hr) k
theorem o_isub (H : oH p l e R s m args below meth c bc ml y rt Z n0 T h cells slots) {x z : Int32}  (hd : decode bc pc = .ok (.isub, 1)) (hp : pc + 1 = pc') (k : oG p e below s n0 kc ks Q (T.setTop (mkF m pc' L (.int (x - z) :: S)))) : oG p e below s n0 kc ks Q (T.setTop (mkF m pc L (.int z :: .int x :: S))) := by
  obtain ⟨locs, X, eT, N, hx, hby, hml, hZ, hown, hnm, hret, hlk, hn⟩ := H
  subst hp
  exact oG.go (fun t hr => XS.isub X.here hx rfl (hb hby hd) rfl hr) k
theorem o_imul (H : oH p l e R s m args below meth c bc ml y rt Z n0 T h cells slots) {x z : Int32}  (hd : decode bc pc = .ok (.imul, 1)) (hp : pc + 1 = pc') (k : oG p e below s n0 kc ks Q (T.setTop (mkF m pc' L (.int (x * z) :: S)))) : oG p e below s n0 kc ks Q (T.setTop (mkF m pc L (.int z :: .int x :: S))) := by
  obtain ⟨locs, X, eT, N, hx, hby, hml, hZ, hown, hnm, hret, hlk, hn⟩ := H
  subst hp
  exact oG.go (fun t hr => XS.imul X.here hx rfl (hb hby hd) rfl hr) k
theorem o_iand (H : oH p l e R s m args below meth c bc ml y rt Z n0 T h cells slots) {x z : Int32}  (hd : decode bc pc = .ok (.iand, 1)) (hp : pc + 1 = pc') (k : oG p e below s n0 kc ks Q (T.setTop (mkF m pc' L (.int (x &&& z) :: S)))) : oG p e below s n0 kc ks Q (T.setTop (mkF m pc L (.int z :: .int x :: S))) := by
  obtain ⟨locs, X, eT, N, hx, hby, hml, hZ, hown, hnm, hret, hlk, hn⟩ := H
  subst hp
  exact oG.go (fun t hr => XS.iand X.here hx rfl (hb hby hd) rfl hr) k
theorem o_ior (H : oH p l e R s m args below meth c bc ml y rt Z n0 T h cells slots) {x z : Int32}  (hd : decode bc pc = .ok (.ior, 1)) (hp : pc + 1 = pc') (k : oG p e below s n0 kc ks Q (T.setTop (mkF m pc' L (.int (x ||| z) :: S)))) : oG p e below s n0 kc ks Q (T.setTop (mkF m pc L (.int z :: .int x :: S))) := by
  obtain ⟨locs, X, eT, N, hx, hby, hml, hZ, hown, hnm, hret, hlk, hn⟩ := H
  subst hp
  exact oG.go (fun t hr => XT.ior X.here hx rfl (hb hby hd) rfl hr) k
theorem o_ixor (H : oH p l e R s m args below meth c bc ml y rt Z n0 T h cells slots) {x z : Int32}  (hd : decode bc pc = .ok (.ixor, 1)) (hp : pc + 1 = pc') (k : oG p e below s n0 kc ks Q (T.setTop (mkF m pc' L (.int (x ^^^ z) :: S)))) : oG p e below s n0 kc ks Q (T.setTop (mkF m pc L (.int z :: .int x :: S))) := by
  obtain ⟨locs, X, eT, N, hx, hby, hml, hZ, hown, hnm, hret, hlk, hn⟩ := H
  subst hp
  exact oG.go (fun t hr => XT.ixor X.here hx rfl (hb hby hd) rfl hr) k
theorem o_ishl (H : oH p l e R s m args below meth c bc ml y rt Z n0 T h cells slots) {x z : Int32}  (hd : decode bc pc = .ok (.ishl, 1)) (hp : pc + 1 = pc') (k : oG p e below s n0 kc ks Q (T.setTop (mkF m pc' L (.int (x <<< (z &&& 31)) :: S)))) : oG p e below s n0 kc ks Q (T.setTop (mkF m pc L (.int z :: .int x :: S))) := by
  obtain ⟨locs, X, eT, N, hx, hby, hml, hZ, hown, hnm, hret, hlk, hn⟩ := H
  subst hp
  exact oG.go (fun t hr => XT.ishl X.here hx rfl (hb hby hd) rfl hr) k
theorem o_ishr (H : oH p l e R s m args below meth c bc ml y rt Z n0 T h cells slots) {x z : Int32}  (hd : decode bc pc = .ok (.ishr, 1)) (hp : pc + 1 = pc') (k : oG p e below s n0 kc ks Q (T.setTop (mkF m pc' L (.int (x >>> (z &&& 31)) :: S)))) : oG p e below s n0 kc ks Q (T.setTop (mkF m pc L (.int z :: .int x :: S))) := by
  obtain ⟨locs, X, eT, N, hx, hby, hml, hZ, hown, hnm, hret, hlk, hn⟩ := H
  subst hp
  exact oG.go (fun t hr => XT.ishr X.here hx rfl (hb hby hd) rfl hr) k
theorem o_iushr (H : oH p l e R s m args below meth c bc ml y rt Z n0 T h cells slots) {x z : Int32}  (hd : decode bc pc = .ok (.iushr, 1)) (hp : pc + 1 = pc') (k : oG p e below s n0 kc ks Q (T.setTop (mkF m pc' L (.int (XT.ushr x z) :: S)))) : oG p e below s n0 kc ks Q (T.setTop (mkF m pc L (.int z :: .int x :: S))) := by
  obtain ⟨locs, X, eT, N, hx, hby, hml, hZ, hown, hnm, hret, hlk, hn⟩ := H
  subst hp
  exact oG.go (fun t hr => XT.iushr X.here hx rfl (hb hby hd) rfl hr) k
theorem o_ladd (H : oH p l e R s m args below meth c bc ml y rt Z n0 T h cells slots) {x z : Int64}  (hd : decode bc pc = .ok (.ladd, 1)) (hp : pc + 1 = pc') (k : oG p e below s n0 kc ks Q (T.setTop (mkF m pc' L (.long (x + z) :: S)))) : oG p e below s n0 kc ks Q (T.setTop (mkF m pc L (.long z :: .long x :: S))) := by
  obtain ⟨locs, X, eT, N, hx, hby, hml, hZ, hown, hnm, hret, hlk, hn⟩ := H
  subst hp
  exact oG.go (fun t hr => XT.ladd X.here hx rfl (hb hby hd) rfl hr) k
theorem o_lsub (H : oH p l e R s m args below meth c bc ml y rt Z n0 T h cells slots) {x z : Int64}  (hd : decode bc pc = .ok (.lsub, 1)) (hp : pc + 1 = pc') (k : oG p e below s n0 kc ks Q (T.setTop (mkF m pc' L (.long (x - z) :: S)))) : oG p e below s n0 kc ks Q (T.setTop (mkF m pc L (.long z :: .long x :: S))) := by
  obtain ⟨locs, X, eT, N, hx, hby, hml, hZ, hown, hnm, hret, hlk, hn⟩ := H
  subst hp
  exact oG.go (fun t hr => XT.lsub X.here hx rfl (hb hby hd) rfl hr) k
theorem o_lmul (H : oH p l e R s m args below meth c bc ml y rt Z n0 T h cells slots) {x z : Int64}  (hd : decode bc pc = .ok (.lmul, 1)) (hp : pc + 1 = pc') (k : oG p e below s n0 kc ks Q (T.setTop (mkF m pc' L (.long (x * z) :: S)))) : oG p e below s n0 kc ks Q (T.setTop (mkF m pc L (.long z :: .long x :: S))) := by
  obtain ⟨locs, X, eT, N, hx, hby, hml, hZ, hown, hnm, hret, hlk, hn⟩ := H
  subst hp
  exact oG.go (fun t hr => XT.lmul X.here hx rfl (hb hby hd) rfl hr) k
theorem o_land (H : oH p l e R s m args below meth c bc ml y rt Z n0 T h cells slots) {x z : Int64}  (hd : decode bc pc = .ok (.land, 1)) (hp : pc + 1 = pc') (k : oG p e below s n0 kc ks Q (T.setTop (mkF m pc' L (.long (x &&& z) :: S)))) : oG p e below s n0 kc ks Q (T.setTop (mkF m pc L (.long z :: .long x :: S))) := by
  obtain ⟨locs, X, eT, N, hx, hby, hml, hZ, hown, hnm, hret, hlk, hn⟩ := H
  subst hp
  exact oG.go (fun t hr => XT.land X.here hx rfl (hb hby hd) rfl hr) k
theorem o_lor (H : oH p l e R s m args below meth c bc ml y rt Z n0 T h cells slots) {x z : Int64}  (hd : decode bc pc = .ok (.lor, 1)) (hp : pc + 1 = pc') (k : oG p e below s n0 kc ks Q (T.setTop (mkF m pc' L (.long (x ||| z) :: S)))) : oG p e below s n0 kc ks Q (T.setTop (mkF m pc L (.long z :: .long x :: S))) := by
  obtain ⟨locs, X, eT, N, hx, hby, hml, hZ, hown, hnm, hret, hlk, hn⟩ := H
  subst hp
  exact oG.go (fun t hr => XT.lor X.here hx rfl (hb hby hd) rfl hr) k
theorem o_lxor (H : oH p l e R s m args below meth c bc ml y rt Z n0 T h cells slots) {x z : Int64}  (hd : decode bc pc = .ok (.lxor, 1)) (hp : pc + 1 = pc') (k : oG p e below s n0 kc ks Q (T.setTop (mkF m pc' L (.long (x ^^^ z) :: S)))) : oG p e below s n0 kc ks Q (T.setTop (mkF m pc L (.long z :: .long x :: S))) := by
  obtain ⟨locs, X, eT, N, hx, hby, hml, hZ, hown, hnm, hret, hlk, hn⟩ := H
  subst hp
  exact oG.go (fun t hr => XT.lxor X.here hx rfl (hb hby hd) rfl hr) k
theorem o_lcmp (H : oH p l e R s m args below meth c bc ml y rt Z n0 T h cells slots) {x z : Int64}  (hd : decode bc pc = .ok (.lcmp, 1)) (hp : pc + 1 = pc') (k : oG p e below s n0 kc ks Q (T.setTop (mkF m pc' L (.int (XT.cmpL x z) :: S)))) : oG p e below s n0 kc ks Q (T.setTop (mkF m pc L (.long z :: .long x :: S))) := by
  obtain ⟨locs, X, eT, N, hx, hby, hml, hZ, hown, hnm, hret, hlk, hn⟩ := H
  subst hp
  exact oG.go (fun t hr => XT.lcmp X.here hx rfl (hb hby hd) rfl hr) k
theorem o_lshl (H : oH p l e R s m args below meth c bc ml y rt Z n0 T h cells slots) {x : Int64} {z : Int32}  (hd : decode bc pc = .ok (.lshl, 1)) (hp : pc + 1 = pc') (k : oG p e below s n0 kc ks Q (T.setTop (mkF m pc' L (.long (x <<< (z.toInt64 &&& 63)) :: S)))) : oG p e below s n0 kc ks Q (T.setTop (mkF m pc L (.int z :: .long x :: S))) := by
  obtain ⟨locs, X, eT, N, hx, hby, hml, hZ, hown, hnm, hret, hlk, hn⟩ := H
  subst hp
  exact oG.go (fun t hr => XT.lshl X.here hx rfl (hb hby hd) rfl hr) k
theorem o_lshr (H : oH p l e R s m args below meth c bc ml y rt Z n0 T h cells slots) {x : Int64} {z : Int32}  (hd : decode bc pc = .ok (.lshr, 1)) (hp : pc + 1 = pc') (k : oG p e below s n0 kc ks Q (T.setTop (mkF m pc' L (.long (x >>> (z.toInt64 &&& 63)) :: S)))) : oG p e below s n0 kc ks Q (T.setTop (mkF m pc L (.int z :: .long x :: S))) := by
  obtain ⟨locs, X, eT, N, hx, hby, hml, hZ, hown, hnm, hret, hlk, hn⟩ := H
  subst hp
  exact oG.go (fun t hr => XT.lshr X.here hx rfl (hb hby hd) rfl hr) k
theorem o_lushr (H : oH p l e R s m args below meth c bc ml y rt Z n0 T h cells slots) {x : Int64} {z : Int32}  (hd : decode bc pc = .ok (.lushr, 1)) (hp : pc + 1 = pc') (k : oG p e below s n0 kc ks Q (T.setTop (mkF m pc' L (.long (XT.ushrL x z) :: S)))) : oG p e below s n0 kc ks Q (T.setTop (mkF m pc L (.int z :: .long x :: S))) := by
  obtain ⟨locs, X, eT, N, hx, hby, hml, hZ, hown, hnm, hret, hlk, hn⟩ := H
  subst hp
  exact oG.go (fun t hr => XT.lushr X.here hx rfl (hb hby hd) rfl hr) k
theorem o_idiv (H : oH p l e R s m args below meth c bc ml y rt Z n0 T h cells slots) {x z : Int32} (hz : z ≠ 0) (hd : decode bc pc = .ok (.idiv, 1)) (hp : pc + 1 = pc') (k : oG p e below s n0 kc ks Q (T.setTop (mkF m pc' L (.int (x / z) :: S)))) : oG p e below s n0 kc ks Q (T.setTop (mkF m pc L (.int z :: .int x :: S))) := by
  obtain ⟨locs, X, eT, N, hx, hby, hml, hZ, hown, hnm, hret, hlk, hn⟩ := H
  subst hp
  exact oG.go (fun t hr => XS.idiv X.here hx rfl (hb hby hd) rfl hz hr) k
theorem o_irem (H : oH p l e R s m args below meth c bc ml y rt Z n0 T h cells slots) {x z : Int32} (hz : z ≠ 0) (hd : decode bc pc = .ok (.irem, 1)) (hp : pc + 1 = pc') (k : oG p e below s n0 kc ks Q (T.setTop (mkF m pc' L (.int (x % z) :: S)))) : oG p e below s n0 kc ks Q (T.setTop (mkF m pc L (.int z :: .int x :: S))) := by
  obtain ⟨locs, X, eT, N, hx, hby, hml, hZ, hown, hnm, hret, hlk, hn⟩ := H
  subst hp
  exact oG.go (fun t hr => iremM X hx rfl (hb hby hd) rfl hz hr) k
theorem o_ineg (H : oH p l e R s m args below meth c bc ml y rt Z n0 T h cells slots) {x : Int32}  (hd : decode bc pc = .ok (.ineg, 1)) (hp : pc + 1 = pc') (k : oG p e below s n0 kc ks Q (T.setTop (mkF m pc' L (.int (-x) :: S)))) : oG p e below s n0 kc ks Q (T.setTop (mkF m pc L (.int x :: S))) := by
  obtain ⟨locs, X, eT, N, hx, hby, hml, hZ, hown, hnm, hret, hlk, hn⟩ := H
  subst hp
  exact oG.go (fun t hr => XS.ineg X.here hx rfl (hb hby hd) rfl hr) k
theorem o_lneg (H : oH p l e R s m args below meth c bc ml y rt Z n0 T h cells slots) {x : Int64}  (hd : decode bc pc = .ok (.lneg, 1)) (hp : pc + 1 = pc') (k : oG p e below s n0 kc ks Q (T.setTop (mkF m pc' L (.long (-x) :: S)))) : oG p e below s n0 kc ks Q (T.setTop (mkF m pc L (.long x :: S))) := by
  obtain ⟨locs, X, eT, N, hx, hby, hml, hZ, hown, hnm, hret, hlk, hn⟩ := H
  subst hp
  exact oG.go (fun t hr => XT.lneg X.here hx rfl (hb hby hd) rfl hr) k
theorem o_i2l (H : oH p l e R s m args below meth c bc ml y rt Z n0 T h cells slots) {x : Int32}  (hd : decode bc pc = .ok (.i2l, 1)) (hp : pc + 1 = pc') (k : oG p e below s n0 kc ks Q (T.setTop (mkF m pc' L (.long x.toInt64 :: S)))) : oG p e below s n0 kc ks Q (T.setTop (mkF m pc L (.int x :: S))) := by
  obtain ⟨locs, X, eT, N, hx, hby, hml, hZ, hown, hnm, hret, hlk, hn⟩ := H
  subst hp
  exact oG.go (fun t hr => XT.i2l X.here hx rfl (hb hby hd) rfl hr) k
theorem o_l2i (H : oH p l e R s m args below meth c bc ml y rt Z n0 T h cells slots) {x : Int64}  (hd : decode bc pc = .ok (.l2i, 1)) (hp : pc + 1 = pc') (k : oG p e below s n0 kc ks Q (T.setTop (mkF m pc' L (.int x.toInt32 :: S)))) : oG p e below s n0 kc ks Q (T.setTop (mkF m pc L (.long x :: S))) := by
  obtain ⟨locs, X, eT, N, hx, hby, hml, hZ, hown, hnm, hret, hlk, hn⟩ := H
  subst hp
  exact oG.go (fun t hr => XT.l2i X.here hx rfl (hb hby hd) rfl hr) k
theorem o_i2b (H : oH p l e R s m args below meth c bc ml y rt Z n0 T h cells slots) {x : Int32}  (hd : decode bc pc = .ok (.i2b, 1)) (hp : pc + 1 = pc') (k : oG p e below s n0 kc ks Q (T.setTop (mkF m pc' L (.int x.toInt8.toInt32 :: S)))) : oG p e below s n0 kc ks Q (T.setTop (mkF m pc L (.int x :: S))) := by
  obtain ⟨locs, X, eT, N, hx, hby, hml, hZ, hown, hnm, hret, hlk, hn⟩ := H
  subst hp
  exact oG.go (fun t hr => XT.i2b X.here hx rfl (hb hby hd) rfl hr) k
theorem o_i2c (H : oH p l e R s m args below meth c bc ml y rt Z n0 T h cells slots) {x : Int32}  (hd : decode bc pc = .ok (.i2c, 1)) (hp : pc + 1 = pc') (k : oG p e below s n0 kc ks Q (T.setTop (mkF m pc' L (.int x.toUInt32.toUInt16.toUInt32.toInt32 :: S)))) : oG p e below s n0 kc ks Q (T.setTop (mkF m pc L (.int x :: S))) := by
  obtain ⟨locs, X, eT, N, hx, hby, hml, hZ, hown, hnm, hret, hlk, hn⟩ := H
  subst hp
  exact oG.go (fun t hr => XT.i2c X.here hx rfl (hb hby hd) rfl hr) k
theorem o_i2s (H : oH p l e R s m args below meth c bc ml y rt Z n0 T h cells slots) {x : Int32}  (hd : decode bc pc = .ok (.i2s, 1)) (hp : pc + 1 = pc') (k : oG p e below s n0 kc ks Q (T.setTop (mkF m pc' L (.int x.toInt16.toInt32 :: S)))) : oG p e below s n0 kc ks Q (T.setTop (mkF m pc L (.int x :: S))) := by
  obtain ⟨locs, X, eT, N, hx, hby, hml, hZ, hown, hnm, hret, hlk, hn⟩ := H
  subst hp
  exact oG.go (fun t hr => XT.i2s X.here hx rfl (hb hby hd) rfl hr) k
theorem o_iinc (H : oH p l e R s m args below meth c bc ml y rt Z n0 T h cells slots) {j : Nat} {cst : Int} {x : Int32} (v u : Int32) (hv : Int32.ofInt cst = v) (hu : x + v = u) (hl : L[j]? = some (.val (.int x))) (hl' : storeLocals L j (.int u) = some L') (hd : decode bc pc = .ok (.iinc j cst, 3)) (hp : pc + 3 = pc') (k : oG p e below s n0 kc ks Q (T.setTop (mkF m pc' L' S))) : oG p e below s n0 kc ks Q (T.setTop (mkF m pc L S)) := by
  obtain ⟨locs, X, eT, N, hx, hby, hml, hZ, hown, hnm, hret, hlk, hn⟩ := H
  subst hp
  exact oG.go (fun t hr => XT.iincV X.here hx rfl v (hb hby hd) hv hl (hu ▸ hl') hr) k
theorem o_fold {x : Int32} (v : Int32) (hv : x = v) (k : oG p e below s n0 kc ks Q (T.setTop (mkF m pc L (.int v :: S)))) : oG p e below s n0 kc ks Q (T.setTop (mkF m pc L (.int x :: S))) := hv ▸ k
theorem o_foldJ {x : Int64} (v : Int64) (hv : x = v) (k : oG p e below s n0 kc ks Q (T.setTop (mkF m pc L (.long v :: S)))) : oG p e below s n0 kc ks Q (T.setTop (mkF m pc L (.long x :: S))) := hv ▸ k
theorem o_dup (H : oH p l e R s m args below meth c bc ml y rt Z n0 T h cells slots) {v : Value} (hc : v.category = 1) (hd : decode bc pc = .ok (.dup, 1)) (hp : pc + 1 = pc') (k : oG p e below s n0 kc ks Q (T.setTop (mkF m pc' L (v :: v :: S)))) : oG p e below s n0 kc ks Q (T.setTop (mkF m pc L (v :: S))) := by
  obtain ⟨locs, X, eT, N, hx, hby, hml, hZ, hown, hnm, hret, hlk, hn⟩ := H
  subst hp
  exact oG.go (fun t hr => XS.dup X.here hx rfl (hb hby hd) rfl hc hr) k
theorem o_dup_x1 (H : oH p l e R s m args below meth c bc ml y rt Z n0 T h cells slots) {v w : Value} (hc : v.category = 1) (hc' : w.category = 1) (hd : decode bc pc = .ok (.dup_x1, 1)) (hp : pc + 1 = pc') (k : oG p e below s n0 kc ks Q (T.setTop (mkF m pc' L (v :: w :: v :: S)))) : oG p e below s n0 kc ks Q (T.setTop (mkF m pc L (v :: w :: S))) := by
  obtain ⟨locs, X, eT, N, hx, hby, hml, hZ, hown, hnm, hret, hlk, hn⟩ := H
  subst hp
  exact oG.go (fun t hr => XT.dupX1 X.here hx rfl (hb hby hd) rfl hc hc' hr) k
theorem o_dup2 (H : oH p l e R s m args below meth c bc ml y rt Z n0 T h cells slots) {v w : Value} (hc : v.category = 1) (hc' : w.category = 1) (hd : decode bc pc = .ok (.dup2, 1)) (hp : pc + 1 = pc') (k : oG p e below s n0 kc ks Q (T.setTop (mkF m pc' L (v :: w :: v :: w :: S)))) : oG p e below s n0 kc ks Q (T.setTop (mkF m pc L (v :: w :: S))) := by
  obtain ⟨locs, X, eT, N, hx, hby, hml, hZ, hown, hnm, hret, hlk, hn⟩ := H
  subst hp
  exact oG.go (fun t hr => XT.dup2 X.here hx rfl (hb hby hd) rfl hc hc' hr) k
theorem o_dup2L (H : oH p l e R s m args below meth c bc ml y rt Z n0 T h cells slots) {v : Int64}  (hd : decode bc pc = .ok (.dup2, 1)) (hp : pc + 1 = pc') (k : oG p e below s n0 kc ks Q (T.setTop (mkF m pc' L (.long v :: .long v :: S)))) : oG p e below s n0 kc ks Q (T.setTop (mkF m pc L (.long v :: S))) := by
  obtain ⟨locs, X, eT, N, hx, hby, hml, hZ, hown, hnm, hret, hlk, hn⟩ := H
  subst hp
  exact oG.go (fun t hr => XT.dup2L X.here hx rfl (hb hby hd) rfl hr) k
theorem o_pop (H : oH p l e R s m args below meth c bc ml y rt Z n0 T h cells slots) {v : Value} (hc : v.category = 1) (hd : decode bc pc = .ok (.pop, 1)) (hp : pc + 1 = pc') (k : oG p e below s n0 kc ks Q (T.setTop (mkF m pc' L S))) : oG p e below s n0 kc ks Q (T.setTop (mkF m pc L (v :: S))) := by
  obtain ⟨locs, X, eT, N, hx, hby, hml, hZ, hown, hnm, hret, hlk, hn⟩ := H
  subst hp
  exact oG.go (fun t hr => XT.pop X.here hx rfl (hb hby hd) rfl hc hr) k
theorem o_one {i : Nat} {v : Value} {sl : Slot} (hs : L[i]? = some sl) (h1 : sl = .unset ∨ ∃ z, sl = .val (.int z)) (hv : v.category = 1) : storeLocals L i v = some (L.setIfInBounds i (.val v)) :=
  XS.store1 hs (h1.imp id fun ⟨z, q⟩ => ⟨.int z, q, rfl⟩) hv
theorem o_len {vs : List Int32} : (vs.map Value.int).length.toInt32 = Int32.ofNat vs.length := by rw [List.length_map]
theorem o_get {vs : List Int32} {i : Nat} (h : i < vs.length) : (vs.map Value.int)[i]? = some (.int (vs[i]'h)) := by simp [h]
theorem o_ofNat {n : Nat} (h : n < 2147483648) : (Int32.ofNat n).toInt = n := Int32.toInt_ofNat_of_lt (by omega)
theorem o_lenJ {vs : List Int64} : (vs.map Value.long).length.toInt32 = Int32.ofNat vs.length := by rw [List.length_map]
theorem o_getJ {vs : List Int64} {i : Nat} (h : i < vs.length) : (vs.map Value.long)[i]? = some (.long (vs[i]'h)) := by simp [h]
theorem o_succ {n : Nat} : Int32.ofNat n + 1 = Int32.ofNat (n + 1) := (Int32.ofNat_add n 1).symm
theorem o_bt {A : Prop} [Decidable A] {b : Int32} (e : b = if A then (1 : Int32) else 0) (q : ¬ b = 0) : A := by
  by_cases a : A
  · exact a
  · rw [if_neg a] at e; exact absurd e q
theorem o_bf {A : Prop} [Decidable A] {b : Int32} (e : b = if A then (1 : Int32) else 0) (q : b = 0) : ¬ A := by
  intro a
  exact absurd ((e.trans (if_pos a)).symm.trans q) (by decide)
theorem o_goto (H : oH p l e R s m args below meth c bc ml y rt Z n0 T h cells slots) {o : Int} (hd : decode bc pc = .ok (.goto o, 3)) (ho : 0 ≤ (pc : Int) + o) (hp : ((pc : Int) + o).toNat = pt) (k : oG p e below s n0 kc ks Q (T.setTop (mkF m pt L S))) : oG p e below s n0 kc ks Q (T.setTop (mkF m pc L S)) := by
  obtain ⟨locs, X, eT, N, hx, hby, hml, hZ, hown, hnm, hret, hlk, hn⟩ := H
  exact oG.go (fun t hr => XS.goto X.here hx rfl rfl (hb hby hd) ho hp hr) k
theorem o_icmp_eq (H : oH p l e R s m args below meth c bc ml y rt Z n0 T h cells slots) {o : Int} {x z : Int32} (hd : decode bc pc = .ok (.if_icmp .eq o, 3)) (ho : 0 ≤ (pc : Int) + o) (hp : ((pc : Int) + o).toNat = pt) (hp' : pc + 3 = pc') (kt : x = z → oG p e below s n0 kc ks Q (T.setTop (mkF m pt L S))) (kf : ¬ x = z → oG p e below s n0 kc ks Q (T.setTop (mkF m pc' L S))) : oG p e below s n0 kc ks Q (T.setTop (mkF m pc L (.int z :: .int x :: S))) := by
  by_cases q : x = z
  · have k := kt q
    obtain ⟨locs, X, eT, N, hx, hby, hml, hZ, hown, hnm, hret, hlk, hn⟩ := H
    exact oG.go (fun t hr => XS.icmpYes X.here hx rfl rfl (hb hby hd) rfl (XT.ii_eq_t q) ho hp hr) k
  · have k := kf q
    obtain ⟨locs, X, eT, N, hx, hby, hml, hZ, hown, hnm, hret, hlk, hn⟩ := H
    subst hp'
    exact oG.go (fun t hr => XS.icmpNo X.here hx rfl (hb hby hd) rfl (XT.ii_eq_f q) hr) k
theorem o_if_eq (H : oH p l e R s m args below meth c bc ml y rt Z n0 T h cells slots) {o : Int} {x : Int32} (hd : decode bc pc = .ok (.ifCond .eq o, 3)) (ho : 0 ≤ (pc : Int) + o) (hp : ((pc : Int) + o).toNat = pt) (hp' : pc + 3 = pc') (kt : x = 0 → oG p e below s n0 kc ks Q (T.setTop (mkF m pt L S))) (kf : ¬ x = 0 → oG p e below s n0 kc ks Q (T.setTop (mkF m pc' L S))) : oG p e below s n0 kc ks Q (T.setTop (mkF m pc L (.int x :: S))) := by
  by_cases q : x = 0
  · have k := kt q
    obtain ⟨locs, X, eT, N, hx, hby, hml, hZ, hown, hnm, hret, hlk, hn⟩ := H
    exact oG.go (fun t hr => XS.ifYes X.here hx rfl rfl (hb hby hd) rfl (XT.i0_eq_t q) ho hp hr) k
  · have k := kf q
    obtain ⟨locs, X, eT, N, hx, hby, hml, hZ, hown, hnm, hret, hlk, hn⟩ := H
    subst hp'
    exact oG.go (fun t hr => XS.ifNo X.here hx rfl (hb hby hd) rfl (XT.i0_eq_f q) hr) k
theorem o_ifl_eq (H : oH p l e R s m args below meth c bc ml y rt Z n0 T h cells slots) {o : Int} {x z : Int64} (hd : decode bc pc = .ok (.ifCond .eq o, 3)) (ho : 0 ≤ (pc : Int) + o) (hp : ((pc : Int) + o).toNat = pt) (hp' : pc + 3 = pc') (kt : x = z → oG p e below s n0 kc ks Q (T.setTop (mkF m pt L S))) (kf : ¬ x = z → oG p e below s n0 kc ks Q (T.setTop (mkF m pc' L S))) : oG p e below s n0 kc ks Q (T.setTop (mkF m pc L (.int (XT.cmpL x z) :: S))) := by
  by_cases q : x = z
  · have k := kt q
    obtain ⟨locs, X, eT, N, hx, hby, hml, hZ, hown, hnm, hret, hlk, hn⟩ := H
    exact oG.go (fun t hr => XS.ifYes X.here hx rfl rfl (hb hby hd) rfl (XT.ll_eq_t q) ho hp hr) k
  · have k := kf q
    obtain ⟨locs, X, eT, N, hx, hby, hml, hZ, hown, hnm, hret, hlk, hn⟩ := H
    subst hp'
    exact oG.go (fun t hr => XS.ifNo X.here hx rfl (hb hby hd) rfl (XT.ll_eq_f q) hr) k
theorem o_icmp_ne (H : oH p l e R s m args below meth c bc ml y rt Z n0 T h cells slots) {o : Int} {x z : Int32} (hd : decode bc pc = .ok (.if_icmp .ne o, 3)) (ho : 0 ≤ (pc : Int) + o) (hp : ((pc : Int) + o).toNat = pt) (hp' : pc + 3 = pc') (kt : ¬ x = z → oG p e below s n0 kc ks Q (T.setTop (mkF m pt L S))) (kf : x = z → oG p e below s n0 kc ks Q (T.setTop (mkF m pc' L S))) : oG p e below s n0 kc ks Q (T.setTop (mkF m pc L (.int z :: .int x :: S))) := by
  by_cases q : ¬ x = z
  · have k := kt q
    obtain ⟨locs, X, eT, N, hx, hby, hml, hZ, hown, hnm, hret, hlk, hn⟩ := H
    exact oG.go (fun t hr => XS.icmpYes X.here hx rfl rfl (hb hby hd) rfl (XT.ii_ne_t q) ho hp hr) k
  · have k := kf (Classical.not_not.mp q)
    obtain ⟨locs, X, eT, N, hx, hby, hml, hZ, hown, hnm, hret, hlk, hn⟩ := H
    subst hp'
    exact oG.go (fun t hr => XS.icmpNo X.here hx rfl (hb hby hd) rfl (XT.ii_ne_f (Classical.not_not.mp q)) hr) k
theorem o_if_ne (H : oH p l e R s m args below meth c bc ml y rt Z n0 T h cells slots) {o : Int} {x : Int32} (hd : decode bc pc = .ok (.ifCond .ne o, 3)) (ho : 0 ≤ (pc : Int) + o) (hp : ((pc : Int) + o).toNat = pt) (hp' : pc + 3 = pc') (kt : ¬ x = 0 → oG p e below s n0 kc ks Q (T.setTop (mkF m pt L S))) (kf : x = 0 → oG p e below s n0 kc ks Q (T.setTop (mkF m pc' L S))) : oG p e below s n0 kc ks Q (T.setTop (mkF m pc L (.int x :: S))) := by
  by_cases q : ¬ x = 0
  · have k := kt q
    obtain ⟨locs, X, eT, N, hx, hby, hml, hZ, hown, hnm, hret, hlk, hn⟩ := H
    exact oG.go (fun t hr => XS.ifYes X.here hx rfl rfl (hb hby hd) rfl (XT.i0_ne_t q) ho hp hr) k
  · have k := kf (Classical.not_not.mp q)
    obtain ⟨locs, X, eT, N, hx, hby, hml, hZ, hown, hnm, hret, hlk, hn⟩ := H
    subst hp'
    exact oG.go (fun t hr => XS.ifNo X.here hx rfl (hb hby hd) rfl (XT.i0_ne_f (Classical.not_not.mp q)) hr) k
theorem o_ifl_ne (H : oH p l e R s m args below meth c bc ml y rt Z n0 T h cells slots) {o : Int} {x z : Int64} (hd : decode bc pc = .ok (.ifCond .ne o, 3)) (ho : 0 ≤ (pc : Int) + o) (hp : ((pc : Int) + o).toNat = pt) (hp' : pc + 3 = pc') (kt : ¬ x = z → oG p e below s n0 kc ks Q (T.setTop (mkF m pt L S))) (kf : x = z → oG p e below s n0 kc ks Q (T.setTop (mkF m pc' L S))) : oG p e below s n0 kc ks Q (T.setTop (mkF m pc L (.int (XT.cmpL x z) :: S))) := by
  by_cases q : ¬ x = z
  · have k := kt q
    obtain ⟨locs, X, eT, N, hx, hby, hml, hZ, hown, hnm, hret, hlk, hn⟩ := H
    exact oG.go (fun t hr => XS.ifYes X.here hx rfl rfl (hb hby hd) rfl (XT.ll_ne_t q) ho hp hr) k
  · have k := kf (Classical.not_not.mp q)
    obtain ⟨locs, X, eT, N, hx, hby, hml, hZ, hown, hnm, hret, hlk, hn⟩ := H
    subst hp'
    exact oG.go (fun t hr => XS.ifNo X.here hx rfl (hb hby hd) rfl (XT.ll_ne_f (Classical.not_not.mp q)) hr) k
theorem o_icmp_lt (H : oH p l e R s m args below meth c bc ml y rt Z n0 T h cells slots) {o : Int} {x z : Int32} (hd : decode bc pc = .ok (.if_icmp .lt o, 3)) (ho : 0 ≤ (pc : Int) + o) (hp : ((pc : Int) + o).toNat = pt) (hp' : pc + 3 = pc') (kt : x < z → oG p e below s n0 kc ks Q (T.setTop (mkF m pt L S))) (kf : ¬ x < z → oG p e below s n0 kc ks Q (T.setTop (mkF m pc' L S))) : oG p e below s n0 kc ks Q (T.setTop (mkF m pc L (.int z :: .int x :: S))) := by
  by_cases q : x < z
  · have k := kt q
    obtain ⟨locs, X, eT, N, hx, hby, hml, hZ, hown, hnm, hret, hlk, hn⟩ := H
    exact oG.go (fun t hr => XS.icmpYes X.here hx rfl rfl (hb hby hd) rfl (XT.ii_lt_t q) ho hp hr) k
  · have k := kf q
    obtain ⟨locs, X, eT, N, hx, hby, hml, hZ, hown, hnm, hret, hlk, hn⟩ := H
    subst hp'
    exact oG.go (fun t hr => XS.icmpNo X.here hx rfl (hb hby hd) rfl (XT.ii_lt_f q) hr) k
theorem o_if_lt (H : oH p l e R s m args below meth c bc ml y rt Z n0 T h cells slots) {o : Int} {x : Int32} (hd : decode bc pc = .ok (.ifCond .lt o, 3)) (ho : 0 ≤ (pc : Int) + o) (hp : ((pc : Int) + o).toNat = pt) (hp' : pc + 3 = pc') (kt : x < 0 → oG p e below s n0 kc ks Q (T.setTop (mkF m pt L S))) (kf : ¬ x < 0 → oG p e below s n0 kc ks Q (T.setTop (mkF m pc' L S))) : oG p e below s n0 kc ks Q (T.setTop (mkF m pc L (.int x :: S))) := by
  by_cases q : x < 0
  · have k := kt q
    obtain ⟨locs, X, eT, N, hx, hby, hml, hZ, hown, hnm, hret, hlk, hn⟩ := H
    exact oG.go (fun t hr => XS.ifYes X.here hx rfl rfl (hb hby hd) rfl (XT.i0_lt_t q) ho hp hr) k
  · have k := kf q
    obtain ⟨locs, X, eT, N, hx, hby, hml, hZ, hown, hnm, hret, hlk, hn⟩ := H
    subst hp'
    exact oG.go (fun t hr => XS.ifNo X.here hx rfl (hb hby hd) rfl (XT.i0_lt_f q) hr) k
theorem o_ifl_lt (H : oH p l e R s m args below meth c bc ml y rt Z n0 T h cells slots) {o : Int} {x z : Int64} (hd : decode bc pc = .ok (.ifCond .lt o, 3)) (ho : 0 ≤ (pc : Int) + o) (hp : ((pc : Int) + o).toNat = pt) (hp' : pc + 3 = pc') (kt : x < z → oG p e below s n0 kc ks Q (T.setTop (mkF m pt L S))) (kf : ¬ x < z → oG p e below s n0 kc ks Q (T.setTop (mkF m pc' L S))) : oG p e below s n0 kc ks Q (T.setTop (mkF m pc L (.int (XT.cmpL x z) :: S))) := by
  by_cases q : x < z
  · have k := kt q
    obtain ⟨locs, X, eT, N, hx, hby, hml, hZ, hown, hnm, hret, hlk, hn⟩ := H
    exact oG.go (fun t hr => XS.ifYes X.here hx rfl rfl (hb hby hd) rfl (XT.ll_lt_t q) ho hp hr) k
  · have k := kf q
    obtain ⟨locs, X, eT, N, hx, hby, hml, hZ, hown, hnm, hret, hlk, hn⟩ := H
    subst hp'
    exact oG.go (fun t hr => XS.ifNo X.here hx rfl (hb hby hd) rfl (XT.ll_lt_f q) hr) k
theorem o_icmp_ge (H : oH p l e R s m args below meth c bc ml y rt Z n0 T h cells slots) {o : Int} {x z : Int32} (hd : decode bc pc = .ok (.if_icmp .ge o, 3)) (ho : 0 ≤ (pc : Int) + o) (hp : ((pc : Int) + o).toNat = pt) (hp' : pc + 3 = pc') (kt : ¬ x < z → oG p e below s n0 kc ks Q (T.setTop (mkF m pt L S))) (kf : x < z → oG p e below s n0 kc ks Q (T.setTop (mkF m pc' L S))) : oG p e below s n0 kc ks Q (T.setTop (mkF m pc L (.int z :: .int x :: S))) := by
  by_cases q : ¬ x < z
  · have k := kt q
    obtain ⟨locs, X, eT, N, hx, hby, hml, hZ, hown, hnm, hret, hlk, hn⟩ := H
    exact oG.go (fun t hr => XS.icmpYes X.here hx rfl rfl (hb hby hd) rfl (XT.ii_ge_t q) ho hp hr) k
  · have k := kf (Classical.not_not.mp q)
    obtain ⟨locs, X, eT, N, hx, hby, hml, hZ, hown, hnm, hret, hlk, hn⟩ := H
    subst hp'
    exact oG.go (fun t hr => XS.icmpNo X.here hx rfl (hb hby hd) rfl (XT.ii_ge_f (Classical.not_not.mp q)) hr) k
theorem o_if_ge (H : oH p l e R s m args below meth c bc ml y rt Z n0 T h cells slots) {o : Int} {x : Int32} (hd : decode bc pc = .ok (.ifCond .ge o, 3)) (ho : 0 ≤ (pc : Int) + o) (hp : ((pc : Int) + o).toNat = pt) (hp' : pc + 3 = pc') (kt : ¬ x < 0 → oG p e below s n0 kc ks Q (T.setTop (mkF m pt L S))) (kf : x < 0 → oG p e below s n0 kc ks Q (T.setTop (mkF m pc' L S))) : oG p e below s n0 kc ks Q (T.setTop (mkF m pc L (.int x :: S))) := by
  by_cases q : ¬ x < 0
  · have k := kt q
    obtain ⟨locs, X, eT, N, hx, hby, hml, hZ, hown, hnm, hret, hlk, hn⟩ := H
    exact oG.go (fun t hr => XS.ifYes X.here hx rfl rfl (hb hby hd) rfl (XT.i0_ge_t q) ho hp hr) k
  · have k := kf (Classical.not_not.mp q)
    obtain ⟨locs, X, eT, N, hx, hby, hml, hZ, hown, hnm, hret, hlk, hn⟩ := H
    subst hp'
    exact oG.go (fun t hr => XS.ifNo X.here hx rfl (hb hby hd) rfl (XT.i0_ge_f (Classical.not_not.mp q)) hr) k
theorem o_ifl_ge (H : oH p l e R s m args below meth c bc ml y rt Z n0 T h cells slots) {o : Int} {x z : Int64} (hd : decode bc pc = .ok (.ifCond .ge o, 3)) (ho : 0 ≤ (pc : Int) + o) (hp : ((pc : Int) + o).toNat = pt) (hp' : pc + 3 = pc') (kt : ¬ x < z → oG p e below s n0 kc ks Q (T.setTop (mkF m pt L S))) (kf : x < z → oG p e below s n0 kc ks Q (T.setTop (mkF m pc' L S))) : oG p e below s n0 kc ks Q (T.setTop (mkF m pc L (.int (XT.cmpL x z) :: S))) := by
  by_cases q : ¬ x < z
  · have k := kt q
    obtain ⟨locs, X, eT, N, hx, hby, hml, hZ, hown, hnm, hret, hlk, hn⟩ := H
    exact oG.go (fun t hr => XS.ifYes X.here hx rfl rfl (hb hby hd) rfl (XT.ll_ge_t q) ho hp hr) k
  · have k := kf (Classical.not_not.mp q)
    obtain ⟨locs, X, eT, N, hx, hby, hml, hZ, hown, hnm, hret, hlk, hn⟩ := H
    subst hp'
    exact oG.go (fun t hr => XS.ifNo X.here hx rfl (hb hby hd) rfl (XT.ll_ge_f (Classical.not_not.mp q)) hr) k
theorem o_icmp_gt (H : oH p l e R s m args below meth c bc ml y rt Z n0 T h cells slots) {o : Int} {x z : Int32} (hd : decode bc pc = .ok (.if_icmp .gt o, 3)) (ho : 0 ≤ (pc : Int) + o) (hp : ((pc : Int) + o).toNat = pt) (hp' : pc + 3 = pc') (kt : z < x → oG p e below s n0 kc ks Q (T.setTop (mkF m pt L S))) (kf : ¬ z < x → oG p e below s n0 kc ks Q (T.setTop (mkF m pc' L S))) : oG p e below s n0 kc ks Q (T.setTop (mkF m pc L (.int z :: .int x :: S))) := by
  by_cases q : z < x
  · have k := kt q
    obtain ⟨locs, X, eT, N, hx, hby, hml, hZ, hown, hnm, hret, hlk, hn⟩ := H
    exact oG.go (fun t hr => XS.icmpYes X.here hx rfl rfl (hb hby hd) rfl (XT.ii_gt_t q) ho hp hr) k
  · have k := kf q
    obtain ⟨locs, X, eT, N, hx, hby, hml, hZ, hown, hnm, hret, hlk, hn⟩ := H
    subst hp'
    exact oG.go (fun t hr => XS.icmpNo X.here hx rfl (hb hby hd) rfl (XT.ii_gt_f q) hr) k
theorem o_if_gt (H : oH p l e R s m args below meth c bc ml y rt Z n0 T h cells slots) {o : Int} {x : Int32} (hd : decode bc pc = .ok (.ifCond .gt o, 3)) (ho : 0 ≤ (pc : Int) + o) (hp : ((pc : Int) + o).toNat = pt) (hp' : pc + 3 = pc') (kt : 0 < x → oG p e below s n0 kc ks Q (T.setTop (mkF m pt L S))) (kf : ¬ 0 < x → oG p e below s n0 kc ks Q (T.setTop (mkF m pc' L S))) : oG p e below s n0 kc ks Q (T.setTop (mkF m pc L (.int x :: S))) := by
  by_cases q : 0 < x
  · have k := kt q
    obtain ⟨locs, X, eT, N, hx, hby, hml, hZ, hown, hnm, hret, hlk, hn⟩ := H
    exact oG.go (fun t hr => XS.ifYes X.here hx rfl rfl (hb hby hd) rfl (XT.i0_gt_t q) ho hp hr) k
  · have k := kf q
    obtain ⟨locs, X, eT, N, hx, hby, hml, hZ, hown, hnm, hret, hlk, hn⟩ := H
    subst hp'
    exact oG.go (fun t hr => XS.ifNo X.here hx rfl (hb hby hd) rfl (XT.i0_gt_f q) hr) k
theorem o_ifl_gt (H : oH p l e R s m args below meth c bc ml y rt Z n0 T h cells slots) {o : Int} {x z : Int64} (hd : decode bc pc = .ok (.ifCond .gt o, 3)) (ho : 0 ≤ (pc : Int) + o) (hp : ((pc : Int) + o).toNat = pt) (hp' : pc + 3 = pc') (kt : z < x → oG p e below s n0 kc ks Q (T.setTop (mkF m pt L S))) (kf : ¬ z < x → oG p e below s n0 kc ks Q (T.setTop (mkF m pc' L S))) : oG p e below s n0 kc ks Q (T.setTop (mkF m pc L (.int (XT.cmpL x z) :: S))) := by
  by_cases q : z < x
  · have k := kt q
    obtain ⟨locs, X, eT, N, hx, hby, hml, hZ, hown, hnm, hret, hlk, hn⟩ := H
    exact oG.go (fun t hr => XS.ifYes X.here hx rfl rfl (hb hby hd) rfl (XT.ll_gt_t q) ho hp hr) k
  · have k := kf q
    obtain ⟨locs, X, eT, N, hx, hby, hml, hZ, hown, hnm, hret, hlk, hn⟩ := H
    subst hp'
    exact oG.go (fun t hr => XS.ifNo X.here hx rfl (hb hby hd) rfl (XT.ll_gt_f q) hr) k
theorem o_icmp_le (H : oH p l e R s m args below meth c bc ml y rt Z n0 T h cells slots) {o : Int} {x z : Int32} (hd : decode bc pc = .ok (.if_icmp .le o, 3)) (ho : 0 ≤ (pc : Int) + o) (hp : ((pc : Int) + o).toNat = pt) (hp' : pc + 3 = pc') (kt : ¬ z < x → oG p e below s n0 kc ks Q (T.setTop (mkF m pt L S))) (kf : z < x → oG p e below s n0 kc ks Q (T.setTop (mkF m pc' L S))) : oG p e below s n0 kc ks Q (T.setTop (mkF m pc L (.int z :: .int x :: S))) := by
  by_cases q : ¬ z < x
  · have k := kt q
    obtain ⟨locs, X, eT, N, hx, hby, hml, hZ, hown, hnm, hret, hlk, hn⟩ := H
    exact oG.go (fun t hr => XS.icmpYes X.here hx rfl rfl (hb hby hd) rfl (XT.ii_le_t q) ho hp hr) k
  · have k := kf (Classical.not_not.mp q)
    obtain ⟨locs, X, eT, N, hx, hby, hml, hZ, hown, hnm, hret, hlk, hn⟩ := H
    subst hp'
    exact oG.go (fun t hr => XS.icmpNo X.here hx rfl (hb hby hd) rfl (XT.ii_le_f (Classical.not_not.mp q)) hr) k
theorem o_if_le (H : oH p l e R s m args below meth c bc ml y rt Z n0 T h cells slots) {o : Int} {x : Int32} (hd : decode bc pc = .ok (.ifCond .le o, 3)) (ho : 0 ≤ (pc : Int) + o) (hp : ((pc : Int) + o).toNat = pt) (hp' : pc + 3 = pc') (kt : ¬ 0 < x → oG p e below s n0 kc ks Q (T.setTop (mkF m pt L S))) (kf : 0 < x → oG p e below s n0 kc ks Q (T.setTop (mkF m pc' L S))) : oG p e below s n0 kc ks Q (T.setTop (mkF m pc L (.int x :: S))) := by
  by_cases q : ¬ 0 < x
  · have k := kt q
    obtain ⟨locs, X, eT, N, hx, hby, hml, hZ, hown, hnm, hret, hlk, hn⟩ := H
    exact oG.go (fun t hr => XS.ifYes X.here hx rfl rfl (hb hby hd) rfl (XT.i0_le_t q) ho hp hr) k
  · have k := kf (Classical.not_not.mp q)
    obtain ⟨locs, X, eT, N, hx, hby, hml, hZ, hown, hnm, hret, hlk, hn⟩ := H
    subst hp'
    exact oG.go (fun t hr => XS.ifNo X.here hx rfl (hb hby hd) rfl (XT.i0_le_f (Classical.not_not.mp q)) hr) k
theorem o_ifl_le (H : oH p l e R s m args below meth c bc ml y rt Z n0 T h cells slots) {o : Int} {x z : Int64} (hd : decode bc pc = .ok (.ifCond .le o, 3)) (ho : 0 ≤ (pc : Int) + o) (hp : ((pc : Int) + o).toNat = pt) (hp' : pc + 3 = pc') (kt : ¬ z < x → oG p e below s n0 kc ks Q (T.setTop (mkF m pt L S))) (kf : z < x → oG p e below s n0 kc ks Q (T.setTop (mkF m pc' L S))) : oG p e below s n0 kc ks Q (T.setTop (mkF m pc L (.int (XT.cmpL x z) :: S))) := by
  by_cases q : ¬ z < x
  · have k := kt q
    obtain ⟨locs, X, eT, N, hx, hby, hml, hZ, hown, hnm, hret, hlk, hn⟩ := H
    exact oG.go (fun t hr => XS.ifYes X.here hx rfl rfl (hb hby hd) rfl (XT.ll_le_t q) ho hp hr) k
  · have k := kf (Classical.not_not.mp q)
    obtain ⟨locs, X, eT, N, hx, hby, hml, hZ, hown, hnm, hret, hlk, hn⟩ := H
    subst hp'
    exact oG.go (fun t hr => XS.ifNo X.here hx rfl (hb hby hd) rfl (XT.ll_le_f (Classical.not_not.mp q)) hr) k
theorem o_icmp_t (H : oH p l e R s m args below meth c bc ml y rt Z n0 T h cells slots) {o : Int} {cd : ClassFile.Cond} {x z : Int32} (hd : decode bc pc = .ok (.if_icmp cd o, 3)) (hc : if_icmp.holds cd x z = true) (ho : 0 ≤ (pc : Int) + o) (hp : ((pc : Int) + o).toNat = pt) (k : oG p e below s n0 kc ks Q (T.setTop (mkF m pt L S))) : oG p e below s n0 kc ks Q (T.setTop (mkF m pc L (.int z :: .int x :: S))) := by
  obtain ⟨locs, X, eT, N, hx, hby, hml, hZ, hown, hnm, hret, hlk, hn⟩ := H
  exact oG.go (fun t hr => XS.icmpYes X.here hx rfl rfl (hb hby hd) rfl hc ho hp hr) k
theorem o_icmp_f (H : oH p l e R s m args below meth c bc ml y rt Z n0 T h cells slots) {o : Int} {cd : ClassFile.Cond} {x z : Int32} (hd : decode bc pc = .ok (.if_icmp cd o, 3)) (hc : if_icmp.holds cd x z = false) (hp : pc + 3 = pc') (k : oG p e below s n0 kc ks Q (T.setTop (mkF m pc' L S))) : oG p e below s n0 kc ks Q (T.setTop (mkF m pc L (.int z :: .int x :: S))) := by
  obtain ⟨locs, X, eT, N, hx, hby, hml, hZ, hown, hnm, hret, hlk, hn⟩ := H
  subst hp
  exact oG.go (fun t hr => XS.icmpNo X.here hx rfl (hb hby hd) rfl hc hr) k
theorem o_if_t (H : oH p l e R s m args below meth c bc ml y rt Z n0 T h cells slots) {o : Int} {cd : ClassFile.Cond} {x : Int32} (hd : decode bc pc = .ok (.ifCond cd o, 3)) (hc : ifCond.holds cd x = true) (ho : 0 ≤ (pc : Int) + o) (hp : ((pc : Int) + o).toNat = pt) (k : oG p e below s n0 kc ks Q (T.setTop (mkF m pt L S))) : oG p e below s n0 kc ks Q (T.setTop (mkF m pc L (.int x :: S))) := by
  obtain ⟨locs, X, eT, N, hx, hby, hml, hZ, hown, hnm, hret, hlk, hn⟩ := H
  exact oG.go (fun t hr => XS.ifYes X.here hx rfl rfl (hb hby hd) rfl hc ho hp hr) k
theorem o_if_f (H : oH p l e R s m args below meth c bc ml y rt Z n0 T h cells slots) {o : Int} {cd : ClassFile.Cond} {x : Int32} (hd : decode bc pc = .ok (.ifCond cd o, 3)) (hc : ifCond.holds cd x = false) (hp : pc + 3 = pc') (k : oG p e below s n0 kc ks Q (T.setTop (mkF m pc' L S))) : oG p e below s n0 kc ks Q (T.setTop (mkF m pc L (.int x :: S))) := by
  obtain ⟨locs, X, eT, N, hx, hby, hml, hZ, hown, hnm, hret, hlk, hn⟩ := H
  subst hp
  exact oG.go (fun t hr => XS.ifNo X.here hx rfl (hb hby hd) rfl hc hr) k
theorem o_ifnull_t (H : oH p l e R s m args below meth c bc ml y rt Z n0 T h cells slots) {o : Int} (hd : decode bc pc = .ok (.ifnull o, 3)) (ho : 0 ≤ (pc : Int) + o) (hp : ((pc : Int) + o).toNat = pt) (k : oG p e below s n0 kc ks Q (T.setTop (mkF m pt L S))) : oG p e below s n0 kc ks Q (T.setTop (mkF m pc L (.null :: S))) := by
  obtain ⟨locs, X, eT, N, hx, hby, hml, hZ, hown, hnm, hret, hlk, hn⟩ := H
  exact oG.go (fun t hr => XS.ifnullYes X.here hx rfl rfl (hb hby hd) rfl ho hp hr) k
theorem o_ifnull_f (H : oH p l e R s m args below meth c bc ml y rt Z n0 T h cells slots) {o : Int} {a : Addr} (hd : decode bc pc = .ok (.ifnull o, 3)) (hp : pc + 3 = pc') (k : oG p e below s n0 kc ks Q (T.setTop (mkF m pc' L S))) : oG p e below s n0 kc ks Q (T.setTop (mkF m pc L (.ref a :: S))) := by
  obtain ⟨locs, X, eT, N, hx, hby, hml, hZ, hown, hnm, hret, hlk, hn⟩ := H
  subst hp
  exact oG.go (fun t hr => XS.ifnullNo X.here hx rfl (hb hby hd) rfl hr) k
theorem o_ifnonnull_t (H : oH p l e R s m args below meth c bc ml y rt Z n0 T h cells slots) {o : Int} {a : Addr} (hd : decode bc pc = .ok (.ifnonnull o, 3)) (ho : 0 ≤ (pc : Int) + o) (hp : ((pc : Int) + o).toNat = pt) (k : oG p e below s n0 kc ks Q (T.setTop (mkF m pt L S))) : oG p e below s n0 kc ks Q (T.setTop (mkF m pc L (.ref a :: S))) := by
  obtain ⟨locs, X, eT, N, hx, hby, hml, hZ, hown, hnm, hret, hlk, hn⟩ := H
  exact oG.go (fun t hr => XT.ifnonnullYes X.here hx rfl rfl (hb hby hd) rfl ho hp hr) k
theorem o_ifnonnull_f (H : oH p l e R s m args below meth c bc ml y rt Z n0 T h cells slots) {o : Int} (hd : decode bc pc = .ok (.ifnonnull o, 3)) (hp : pc + 3 = pc') (k : oG p e below s n0 kc ks Q (T.setTop (mkF m pc' L S))) : oG p e below s n0 kc ks Q (T.setTop (mkF m pc L (.null :: S))) := by
  obtain ⟨locs, X, eT, N, hx, hby, hml, hZ, hown, hnm, hret, hlk, hn⟩ := H
  subst hp
  exact oG.go (fun t hr => XT.ifnonnullNo X.here hx rfl (hb hby hd) rfl hr) k
theorem o_acmp_t (H : oH p l e R s m args below meth c bc ml y rt Z n0 T h cells slots) {o : Int} {cd : ClassFile.ACond} {u w : Value} (hd : decode bc pc = .ok (.if_acmp cd o, 3)) (hu : u.isRef = true) (hw : w.isRef = true) (hc : XT.acmp cd u w = true) (ho : 0 ≤ (pc : Int) + o) (hp : ((pc : Int) + o).toNat = pt) (k : oG p e below s n0 kc ks Q (T.setTop (mkF m pt L S))) : oG p e below s n0 kc ks Q (T.setTop (mkF m pc L (w :: u :: S))) := by
  obtain ⟨locs, X, eT, N, hx, hby, hml, hZ, hown, hnm, hret, hlk, hn⟩ := H
  exact oG.go (fun t hr => XT.acmpYes X.here hx rfl rfl (hb hby hd) rfl hu hw hc ho hp hr) k
theorem o_acmp_f (H : oH p l e R s m args below meth c bc ml y rt Z n0 T h cells slots) {o : Int} {cd : ClassFile.ACond} {u w : Value} (hd : decode bc pc = .ok (.if_acmp cd o, 3)) (hu : u.isRef = true) (hw : w.isRef = true) (hc : XT.acmp cd u w = false) (hp : pc + 3 = pc') (k : oG p e below s n0 kc ks Q (T.setTop (mkF m pc' L S))) : oG p e below s n0 kc ks Q (T.setTop (mkF m pc L (w :: u :: S))) := by
  obtain ⟨locs, X, eT, N, hx, hby, hml, hZ, hown, hnm, hret, hlk, hn⟩ := H
  subst hp
  exact oG.go (fun t hr => XT.acmpNo X.here hx rfl (hb hby hd) rfl hu hw hc hr) k
theorem o_ldcI (H : oH p l e R s m args below meth c bc ml y rt Z n0 T h cells slots) {i : Nat} (v : Int32) (w : (Jvm.Cond.constant y.cls i v).before a0 Z = true) (hd : decode bc pc = .ok (.ldc i, 2)) (hp : pc + 2 = pc') (k : oG p e below s n0 kc ks Q (T.setTop (mkF m pc' L (.int v :: S)))) : oG p e below s n0 kc ks Q (T.setTop (mkF m pc L S)) := by
  obtain ⟨locs, X, eT, N, hx, hby, hml, hZ, hown, hnm, hret, hlk, hn⟩ := H
  subst hp
  exact oG.go (X.ldcInt hx hown (mvT hZ w) (g := mkF m pc L S) rfl (hb hby hd)) k
theorem o_ldcJ (H : oH p l e R s m args below meth c bc ml y rt Z n0 T h cells slots) {i : Nat} (v : Int64) (w : (Jvm.Cond.constantLong y.cls i v).before a0 Z = true) (hd : decode bc pc = .ok (.ldc2_w i, 3)) (hp : pc + 3 = pc') (k : oG p e below s n0 kc ks Q (T.setTop (mkF m pc' L (.long v :: S)))) : oG p e below s n0 kc ks Q (T.setTop (mkF m pc L S)) := by
  obtain ⟨locs, X, eT, N, hx, hby, hml, hZ, hown, hnm, hret, hlk, hn⟩ := H
  subst hp
  exact oG.go (X.ldc2Long hx hown (mvT hZ w) (g := mkF m pc L S) rfl (hb hby hd)) k
theorem o_ldcD (H : oH p l e R s m args below meth c bc ml y rt Z n0 T h cells slots) {i : Nat} (v : UInt64) (w : (Jvm.Cond.constantDouble y.cls i v).before a0 Z = true) (hd : decode bc pc = .ok (.ldc2_w i, 3)) (hp : pc + 3 = pc') (k : oG p e below s n0 kc ks Q (T.setTop (mkF m pc' L (.double v :: S)))) : oG p e below s n0 kc ks Q (T.setTop (mkF m pc L S)) := by
  obtain ⟨locs, X, eT, N, hx, hby, hml, hZ, hown, hnm, hret, hlk, hn⟩ := H
  subst hp
  exact oG.go (X.ldc2DoubleC hx hown (mvT hZ w) (g := mkF m pc L S) rfl (hb hby hd)) k
theorem o_ireturn (H : oH p l e R s m args below meth c bc ml y rt Z n0 T h cells slots) {z : Int32} (hrt : rt = some .int) (hd : decode bc pc = .ok (.ireturn, 1)) (hk : cells ≤ kc) (hs : slots ≤ ks) (q : Q (some (.int z)) h) : oG p e below s n0 kc ks Q (T.setTop (mkF m pc L (.int z :: S))) := by
  obtain ⟨locs, X, eT, N, hx, hby, hml, hZ, hown, hnm, hret, hlk, hn⟩ := H
  obtain ⟨fs, hr, hrun, hended, hW, hsame⟩ := X.leave (v := (some (.int z))) (fun hh => by first | rfl | (rw [hret, hrt] at hh; cases hh)) hlk
  refine ⟨_, _, retI X hx (hret.trans hrt) (hb hby hd) hr, hrun, hended, _, _, rfl, ⟨?_, N⟩, ⟨_, rfl⟩, hW, hsame.mono hk hs⟩
  show Q _ T.heap
  rw [eT]; exact q
theorem o_nreturn (H : oH p l e R s m args below meth c bc ml y rt Z n0 T h cells slots) {z : Int32} (t : FieldType) (hrt : rt = some t) (ht : t = .boolean ∨ t = .byte ∨ t = .char ∨ t = .short) (hd : decode bc pc = .ok (.ireturn, 1)) (hk : cells ≤ kc) (hs : slots ≤ ks) (q : Q (some (.int (nar t z))) h) : oG p e below s n0 kc ks Q (T.setTop (mkF m pc L (.int z :: S))) := by
  obtain ⟨locs, X, eT, N, hx, hby, hml, hZ, hown, hnm, hret, hlk, hn⟩ := H
  obtain ⟨fs, hr, hrun, hended, hW, hsame⟩ := X.leave (v := (some (.int (nar t z)))) (fun hh => by first | rfl | (rw [hret, hrt] at hh; cases hh)) hlk
  refine ⟨_, _, retN X hx (hret.trans hrt) ht (hb hby hd) hr, hrun, hended, _, _, rfl, ⟨?_, N⟩, ⟨_, rfl⟩, hW, hsame.mono hk hs⟩
  show Q _ T.heap
  rw [eT]; exact q
theorem o_lreturn (H : oH p l e R s m args below meth c bc ml y rt Z n0 T h cells slots) {z : Int64} (hrt : rt = some .long) (hd : decode bc pc = .ok (.lreturn, 1)) (hk : cells ≤ kc) (hs : slots ≤ ks) (q : Q (some (.long z)) h) : oG p e below s n0 kc ks Q (T.setTop (mkF m pc L (.long z :: S))) := by
  obtain ⟨locs, X, eT, N, hx, hby, hml, hZ, hown, hnm, hret, hlk, hn⟩ := H
  obtain ⟨fs, hr, hrun, hended, hW, hsame⟩ := X.leave (v := (some (.long z))) (fun hh => by first | rfl | (rw [hret, hrt] at hh; cases hh)) hlk
  refine ⟨_, _, retOut X hx (w := .long z) (i := .lreturn) (hret.trans hrt) rfl (Or.inr (Or.inl ⟨rfl, rfl, z, rfl⟩)) (hb hby hd) hr, hrun, hended, _, _, rfl, ⟨?_, N⟩, ⟨_, rfl⟩, hW, hsame.mono hk hs⟩
  show Q _ T.heap
  rw [eT]; exact q
theorem o_areturn (H : oH p l e R s m args below meth c bc ml y rt Z n0 T h cells slots) {v : Value} {t : FieldType} (hrt : rt = some t) (ht : t.isReference = true) (hv : v.isRef = true) (hna : narrow t v = v) (hd : decode bc pc = .ok (.areturn, 1)) (hk : cells ≤ kc) (hs : slots ≤ ks) (q : Q (some v) h) : oG p e below s n0 kc ks Q (T.setTop (mkF m pc L (v :: S))) := by
  obtain ⟨locs, X, eT, N, hx, hby, hml, hZ, hown, hnm, hret, hlk, hn⟩ := H
  obtain ⟨fs, hr, hrun, hended, hW, hsame⟩ := X.leave (v := (some v)) (fun hh => by first | rfl | (rw [hret, hrt] at hh; cases hh)) hlk
  refine ⟨_, _, retOut X hx (w := v) (i := .areturn) (hret.trans hrt) hna (Or.inr (Or.inr (Or.inr (Or.inr ⟨rfl, ht, hv⟩)))) (hb hby hd) hr, hrun, hended, _, _, rfl, ⟨?_, N⟩, ⟨_, rfl⟩, hW, hsame.mono hk hs⟩
  show Q _ T.heap
  rw [eT]; exact q
theorem o_return (H : oH p l e R s m args below meth c bc ml y rt Z n0 T h cells slots)  (hrt : rt = none) (hd : decode bc pc = .ok (.return_, 1)) (hk : cells ≤ kc) (hs : slots ≤ ks) (q : Q none h) : oG p e below s n0 kc ks Q (T.setTop (mkF m pc L [])) := by
  obtain ⟨locs, X, eT, N, hx, hby, hml, hZ, hown, hnm, hret, hlk, hn⟩ := H
  obtain ⟨fs, hr, hrun, hended, hW, hsame⟩ := X.leave (v := none) (fun hh => by first | rfl | (rw [hret, hrt] at hh; cases hh)) hlk
  refine ⟨_, _, X.returnOut hx (hret.trans hrt) (hb hby hd) hr, hrun, hended, _, _, rfl, ⟨?_, N⟩, ⟨_, rfl⟩, hW, hsame.mono hk hs⟩
  show Q _ T.heap
  rw [eT]; exact q
theorem o_new (H : oH p l e R s m args below meth c bc ml y rt Z n0 T h cells slots) {i nn : Nat} {C : String} (w : (Jvm.Cond.classLink y.cls i C).before a0 Z = true) (wi : (Jvm.Cond.instantiable C nn).before a0 Z = true) (wz : (Jvm.Cond.initialized C).before a0 Z = true) (hd : decode bc pc = .ok (.new i, 3)) (hp : pc + 3 = pc') (hc : cells + 1 ≤ R.cells) (hl : slots + nn ≤ R.slots)
    (k : ∀ (T' : State) (h' : Heap) (a : Addr), a = h.size → oH p l e R s m args below meth c bc ml y rt Z n0 T' h' (cells + 1) (slots + nn) → Ext h h' → Exa Z h' a C → (∀ {O nm d : String} {ty : FieldType}, Laid Z a0 C O nm d → parseFieldDescriptor d = some ty → Fld Z h' a O nm d (defaultValue ty)) → oG p e below s n0 kc ks Q (T'.setTop (mkF m pc' L (.ref a :: S)))) : oG p e below s n0 kc ks Q (T.setTop (mkF m pc L S)) := by
  obtain ⟨locs, X, eT, N, hx, hby, hml, hZ, hown, hnm, hret, hlk, hn⟩ := H
  subst hp
  obtain ⟨T', h', X', e', E, A, D, -, st⟩ := newO X hx hZ hown w wi wz eT (g := mkF m pc L S) rfl (hb hby hd) hc hl
  exact oG.go st (k T' h' _ rfl ⟨locs, X', e', N, hx, hby, hml, hZ, hown, hnm, hret, hlk, hn⟩ E A (fun La ht => D La ht))
theorem o_initO (H : oH p l e R s m args below meth c bc ml y rt Z n0 T h cells slots) {i : Nat} {a : Addr} (w1 : (Jvm.Cond.methodLink y.cls i Lib.objectInit).before a0 Z = true) (w2 : (Jvm.Cond.instanceMethod Lib.objectInit).before a0 Z = true) (w3 : (Jvm.Cond.code Lib.objectInit ⟨#[0xb1]⟩ 1 none).before a0 Z = true) (hd : decode bc pc = .ok (.invokespecial i, 3)) (hp : pc + 3 = pc') (hsz : L.size = ml) (hf : 1 ≤ R.frames) (hlo : (S.map fun v => v.category).sum + 12 ≤ R.locals)
    (k : ∀ (T' : State), oH p l e R s m args below meth c bc ml y rt Z n0 T' h cells slots → oG p e below s n0 kc ks Q (T'.setTop (mkF m pc' L S))) : oG p e below s n0 kc ks Q (T.setTop (mkF m pc L (.ref a :: S))) := by
  obtain ⟨locs, X, eT, N, hx, hby, hml, hZ, hown, hnm, hret, hlk, hn⟩ := H
  subst hp
  obtain ⟨T', X', e', st⟩ := initO X hx hZ hown w1 w2 w3 eT (g := mkF m pc L (.ref a :: S)) rfl (by rw [hml]; exact hsz) rfl (hb hby hd) hf (W := (S.map fun v => v.category).sum) (by show 2 * 0 + _ ≤ _; omega) hlo
  exact oG.go st (k T' ⟨locs, X', e', N, hx, hby, hml, hZ, hown, hnm, hret, hlk, hn⟩)
theorem o_getF (H : oH p l e R s m args below meth c bc ml y rt Z n0 T h cells slots) {i : Nat} {a : Addr} {C f d host : String} {v : Value} (w : (Jvm.Cond.fieldLink y.cls i C f d).before a0 Z = true ∨ (Jvm.Cond.fieldLinkNest y.cls i C f d host).before a0 Z = true) (F : Fld Z h a C f d v) (hd : decode bc pc = .ok (.getfield i, 3)) (hp : pc + 3 = pc')
    (k : ∀ (T' : State), oH p l e R s m args below meth c bc ml y rt Z n0 T' h cells slots → oG p e below s n0 kc ks Q (T'.setTop (mkF m pc' L (v :: S)))) : oG p e below s n0 kc ks Q (T.setTop (mkF m pc L (.ref a :: S))) := by
  obtain ⟨locs, X, eT, N, hx, hby, hml, hZ, hown, hnm, hret, hlk, hn⟩ := H
  subst hp
  obtain ⟨T', X', e', st⟩ := getF X hx hZ hown (host := host) w Via.refl eT F (g := mkF m pc L (.ref a :: S)) rfl rfl (hb hby hd)
  exact oG.go st (k T' ⟨locs, X', e', N, hx, hby, hml, hZ, hown, hnm, hret, hlk, hn⟩)
theorem o_putF (H : oH p l e R s m args below meth c bc ml y rt Z n0 T h cells slots) {i kk : Nat} {a : Addr} {C K f d host : String} {v old : Value} {ty : FieldType} (w : (Jvm.Cond.fieldLink y.cls i C f d).before a0 Z = true ∨ (Jvm.Cond.fieldLinkNest y.cls i C f d host).before a0 Z = true) (F : Fld Z h a C f d old) (E : Exa Z h a K) (wl : (Jvm.Cond.lays K C f d).before a0 Z = true ∨ ((Jvm.Cond.laysFinal K C f d).before a0 Z = true ∧ y.cls = C ∧ y.name = "<init>")) (wi : (Jvm.Cond.instantiable K kk).before a0 Z = true) (hty : parseFieldDescriptor d = some ty) (hna : narrow ty v = v) (hft : fits ty v = true) (ha : n0 ≤ a) (hd : decode bc pc = .ok (.putfield i, 3)) (hp : pc + 3 = pc')
    (k : ∀ (T' : State) (h' : Heap), oH p l e R s m args below meth c bc ml y rt Z n0 T' h' cells slots → Wr h h' a (Jvm.RoadKit.slotOf Z C f d) v → oG p e below s n0 kc ks Q (T'.setTop (mkF m pc' L S))) : oG p e below s n0 kc ks Q (T.setTop (mkF m pc L (v :: .ref a :: S))) := by
  obtain ⟨locs, X, eT, N, hx, hby, hml, hZ, hown, hnm, hret, hlk, hn⟩ := H
  subst hp
  obtain ⟨T', h', X', e', W, st⟩ := putF X hx hZ hown (host := host) w Via.refl eT F E (wl.imp id fun q => ⟨q.1, q.2.1, hnm.trans q.2.2⟩) wi hty hna hft (g := mkF m pc L (v :: .ref a :: S)) rfl rfl (hb hby hd)
  exact oG.go st (k T' h' ⟨_, X', e', Fr.snoc X' N ha, hx, hby, hml, hZ, hown, hnm, hret, hlk, hn⟩ W)
theorem o_putFN (H : oH p l e R s m args below meth c bc ml y rt Z n0 T h cells slots) {i kk : Nat} {a : Addr} {C K f d : String} {v v' old : Value} {ty : FieldType} (w : (Jvm.Cond.fieldLink y.cls i C f d).before a0 Z = true) (F : Fld Z h a C f d old) (E : Exa Z h a K) (wl : (Jvm.Cond.lays K C f d).before a0 Z = true ∨ ((Jvm.Cond.laysFinal K C f d).before a0 Z = true ∧ y.cls = C ∧ y.name = "<init>")) (wi : (Jvm.Cond.instantiable K kk).before a0 Z = true) (hty : parseFieldDescriptor d = some ty) (hna : narrow ty v = v') (hft : fits ty v' = true) (ha : n0 ≤ a) (hd : decode bc pc = .ok (.putfield i, 3)) (hp : pc + 3 = pc')
    (k : ∀ (T' : State) (h' : Heap), oH p l e R s m args below meth c bc ml y rt Z n0 T' h' cells slots → Wr h h' a (Jvm.RoadKit.slotOf Z C f d) v' → oG p e below s n0 kc ks Q (T'.setTop (mkF m pc' L S))) : oG p e below s n0 kc ks Q (T.setTop (mkF m pc L (v :: .ref a :: S))) := by
  obtain ⟨locs, X, eT, N, hx, hby, hml, hZ, hown, hnm, hret, hlk, hn⟩ := H
  subst hp
  obtain ⟨T', h', X', e', W, st⟩ := putFN X hx hZ hown w Via.refl eT F E (wl.imp id fun q => ⟨q.1, q.2.1, hnm.trans q.2.2⟩) wi hty hna hft (g := mkF m pc L (v :: .ref a :: S)) rfl rfl (hb hby hd)
  exact oG.go st (k T' h' ⟨_, X', e', Fr.snoc X' N ha, hx, hby, hml, hZ, hown, hnm, hret, hlk, hn⟩ W)
theorem o_getS (H : oH p l e R s m args below meth c bc ml y rt Z n0 T h cells slots) {i : Nat} {C f d host : String} {v : Value} (w : (Jvm.Cond.fieldLink y.cls i C f d).before a0 Z = true ∨ (Jvm.Cond.fieldLinkNest y.cls i C f d host).before a0 Z = true) (F : Sta Z h C f d v) (hd : decode bc pc = .ok (.getstatic i, 3)) (hp : pc + 3 = pc')
    (k : ∀ (T' : State), oH p l e R s m args below meth c bc ml y rt Z n0 T' h cells slots → oG p e below s n0 kc ks Q (T'.setTop (mkF m pc' L (v :: S)))) : oG p e below s n0 kc ks Q (T.setTop (mkF m pc L S)) := by
  obtain ⟨locs, X, eT, N, hx, hby, hml, hZ, hown, hnm, hret, hlk, hn⟩ := H
  subst hp
  obtain ⟨T', X', e', st⟩ := getS2 X hx hZ hown (host := host) w Via.refl eT F (g := mkF m pc L S) rfl (hb hby hd)
  exact oG.go st (k T' ⟨locs, X', e', N, hx, hby, hml, hZ, hown, hnm, hret, hlk, hn⟩)
theorem o_instY (H : oH p l e R s m args below meth c bc ml y rt Z n0 T h cells slots) {i : Nat} {a : Addr} {K : String} (w : (Jvm.Cond.classLink y.cls i K).before a0 Z = true) (I : Ins Z h a K true) (hd : decode bc pc = .ok (.instanceof i, 3)) (hp : pc + 3 = pc') (k : ∀ (T' : State), oH p l e R s m args below meth c bc ml y rt Z n0 T' h cells slots → oG p e below s n0 kc ks Q (T'.setTop (mkF m pc' L (.int 1 :: S)))) : oG p e below s n0 kc ks Q (T.setTop (mkF m pc L (.ref a :: S))) := by
  obtain ⟨locs, X, eT, N, hx, hby, hml, hZ, hown, hnm, hret, hlk, hn⟩ := H
  subst hp
  obtain ⟨T', X', e', st⟩ := instY X hx hZ hown w eT I (g := mkF m pc L (.ref a :: S)) rfl rfl (hb hby hd)
  exact oG.go st (k T' ⟨locs, X', e', N, hx, hby, hml, hZ, hown, hnm, hret, hlk, hn⟩)
theorem o_castY (H : oH p l e R s m args below meth c bc ml y rt Z n0 T h cells slots) {i : Nat} {a : Addr} {K : String} (w : (Jvm.Cond.classLink y.cls i K).before a0 Z = true) (I : Ins Z h a K true) (hd : decode bc pc = .ok (.checkcast i, 3)) (hp : pc + 3 = pc') (k : ∀ (T' : State), oH p l e R s m args below meth c bc ml y rt Z n0 T' h cells slots → oG p e below s n0 kc ks Q (T'.setTop (mkF m pc' L (.ref a :: S)))) : oG p e below s n0 kc ks Q (T.setTop (mkF m pc L (.ref a :: S))) := by
  obtain ⟨locs, X, eT, N, hx, hby, hml, hZ, hown, hnm, hret, hlk, hn⟩ := H
  subst hp
  obtain ⟨T', X', e', st⟩ := castY X hx hZ hown w eT I (g := mkF m pc L (.ref a :: S)) rfl rfl (hb hby hd)
  exact oG.go st (k T' ⟨locs, X', e', N, hx, hby, hml, hZ, hown, hnm, hret, hlk, hn⟩)
theorem o_instNo (H : oH p l e R s m args below meth c bc ml y rt Z n0 T h cells slots) {i : Nat} {a : Addr} {C K : String} (w : (Jvm.Cond.classLink y.cls i K).before a0 Z = true) (E : Exa Z h a C) (F : ∃ c t, Z.vm.findClass C = some c ∧ Z.vm.findClass K = some t ∧ Z.vm.assignable c t = false) (hd : decode bc pc = .ok (.instanceof i, 3)) (hp : pc + 3 = pc') (k : ∀ (T' : State), oH p l e R s m args below meth c bc ml y rt Z n0 T' h cells slots → oG p e below s n0 kc ks Q (T'.setTop (mkF m pc' L (.int 0 :: S)))) : oG p e below s n0 kc ks Q (T.setTop (mkF m pc L (.ref a :: S))) := by
  obtain ⟨locs, X, eT, N, hx, hby, hml, hZ, hown, hnm, hret, hlk, hn⟩ := H
  subst hp
  obtain ⟨T', X', e', st⟩ := instNo X hx hZ hown w eT E F (g := mkF m pc L (.ref a :: S)) rfl rfl (hb hby hd)
  exact oG.go st (k T' ⟨locs, X', e', N, hx, hby, hml, hZ, hown, hnm, hret, hlk, hn⟩)
theorem o_instNull (H : oH p l e R s m args below meth c bc ml y rt Z n0 T h cells slots) {i : Nat} (hd : decode bc pc = .ok (.instanceof i, 3)) (hp : pc + 3 = pc') (k : oG p e below s n0 kc ks Q (T.setTop (mkF m pc' L (.int 0 :: S)))) : oG p e below s n0 kc ks Q (T.setTop (mkF m pc L (.null :: S))) := by
  obtain ⟨locs, X, eT, N, hx, hby, hml, hZ, hown, hnm, hret, hlk, hn⟩ := H
  subst hp
  exact oG.go (X.instanceofNull hx (g := mkF m pc L (.null :: S)) rfl rfl (hb hby hd)) k
theorem o_aaloadC (H : oH p l e R s m args below meth c bc ml y rt Z n0 T h cells slots) {a : Addr} {j : Int32} {cl : Cell} {ty : FieldType} (v : Value) (A : Arr Z h a cl ty) (hty : ty.isReference = true) (hin : ¬ (j < 0 ∨ cl.slots.size ≤ j.toNatClampNeg)) (hv : cl.slots[j.toNatClampNeg]? = some v) (hd : decode bc pc = .ok (.aaload, 1)) (hp : pc + 1 = pc') (k : oG p e below s n0 kc ks Q (T.setTop (mkF m pc' L (v :: S)))) : oG p e below s n0 kc ks Q (T.setTop (mkF m pc L (.int j :: .ref a :: S))) := by
  obtain ⟨locs, X, eT, N, hx, hby, hml, hZ, hown, hnm, hret, hlk, hn⟩ := H
  subst hp
  exact oG.go (fun t hr => X.aaload hx (j := j) (v := v) (by rw [eT]; exact A.1) (State.isArrayOf_alike hZ.alike A.2.1) hty A.2.2 hin hv (g := mkF m pc L (.int j :: .ref a :: S)) rfl rfl (hb hby hd) t hr) k
theorem o_kext {h' : Heap} (K : Keep h h' []) : Ext h h' := ⟨K.1, fun a c q => K.2.1 a c q nin0⟩
theorem o_etrans {h' h'' : Heap} (E : Ext h h') (E' : Ext h' h'') : Ext h h'' := ⟨Nat.le_trans E.1 E'.1, fun a c q => E'.2 a c (E.2 a c q)⟩
/-- C's chain of superclasses, ended by O, meets no class that can be made of the name K -/
theorem o_noSub {C K : String} {n : Nat} (wk : (Jvm.Cond.instantiable K n).before a0 Z = true) (kd : ∃ c k, Z.vm.findClass C = some c ∧ Z.vm.classes[c]? = some k ∧ k.kind = .ordinary) (hn : C ≠ K) (nf : ∀ c t, Z.vm.findClass C = some c → Z.vm.findClass K = some t → ∀ fuel, Z.vm.isSubclassAux fuel c t = false) : ∃ c t, Z.vm.findClass C = some c ∧ Z.vm.findClass K = some t ∧ Z.vm.assignable c t = false := by
  obtain ⟨c, k, h1, h2, h3⟩ := kd
  obtain ⟨t, kt, g1, g2, g3, g4, -⟩ := Cond.instantiable_spec wk
  have ne := ids_ne h1 g1 hn
  have g5 : kt.isInterface = false := (Bool.or_eq_false_iff.mp g4).1
  refine ⟨c, t, h1, g1, ?_⟩
  show Z.vm.assignableAux (255 + 1) c t = false
  simp [Vm.assignableAux, ne, h2, g2, h3, g3, g5, Vm.isSubclass, nf c t h1 g1]
theorem o_subRoot {O K : String} {n : Nat} (w : (Jvm.Cond.noSuperclass O).before a0 Z = true) (wk : (Jvm.Cond.instantiable K n).before a0 Z = true) (hn : O ≠ K) : NS Z O K := by
  obtain ⟨c, k, h1, h2, h3, -, -⟩ := Cond.noSuperclass_spec w
  obtain ⟨t, kt, g1, g2, g3, g4, -⟩ := Cond.instantiable_spec wk
  have ne := ids_ne h1 g1 hn
  refine ⟨c, t, h1, g1, fun fuel => ?_⟩
  cases fuel with
  | zero => rfl
  | succ f => simp [Vm.isSubclassAux, ne, h2, h3]
theorem o_ns {C S' K : String} {n : Nat} (w : (Jvm.Cond.superclass C S').before a0 Z = true) (wk : (Jvm.Cond.instantiable K n).before a0 Z = true) (N : NS Z C K) (hn : C ≠ K) : ∃ c t, Z.vm.findClass C = some c ∧ Z.vm.findClass K = some t ∧ Z.vm.assignable c t = false := by
  obtain ⟨c, h0⟩ := found_sup w
  obtain ⟨p, k, kp, h1, h2, h3, h4, h5, -, h7⟩ := Cond.superclass_spec h0 w
  refine o_noSub wk ⟨c, k, h0, h2, h5⟩ hn fun c' t' q1 q2 => ?_
  obtain ⟨c1, t1, r1, r2, r3⟩ := N
  cases r1.symm.trans q1
  cases r2.symm.trans q2
  exact r3
/-- an array, by the list of what it holds -/
def oA (ty : FieldType) (Z : State) (h : Heap) (a : Addr) (vs : List Value) : Prop := vs.length < 2 ^ 31 ∧ ∃ cl : Cell, Arr Z h a cl ty ∧ cl.slots = vs.toArray
theorem oA.ext {ty : FieldType} {h' : Heap} {a : Addr} {vs : List Value} (A : oA ty Z h a vs) (E : Ext h h') : oA ty Z h' a vs := by
  obtain ⟨q, cl, A, r⟩ := A; exact ⟨q, cl, A.ext E, r⟩
theorem oA.other {ty : FieldType} {h' : Heap} {a b : Addr} {sl : Nat} {v : Value} {vs : List Value} (A : oA ty Z h b vs) (W : Wr h h' a sl v) (ne : b ≠ a) : oA ty Z h' b vs := by
  obtain ⟨q, cl, A, r⟩ := A; exact ⟨q, cl, A.other W ne, r⟩
theorem oA.keep {ty : FieldType} {h' : Heap} {a : Addr} {ws : List Addr} {vs : List Value} (A : oA ty Z h a vs) (K : Keep h h' ws) (ne : a ∉ ws) : oA ty Z h' a vs := by
  obtain ⟨q, cl, A, r⟩ := A; exact ⟨q, cl, ⟨K.2.1 a cl A.1 ne, A.2⟩, r⟩
theorem oA.lt {ty : FieldType} {a : Addr} {vs : List Value} (A : oA ty Z h a vs) : a < h.size := by
  obtain ⟨q, cl, A, r⟩ := A; exact A.lt
theorem oA.same {ty : FieldType} {h' : Heap} {a : Addr} {j : Nat} {v : Value} {vs : List Value} (A : oA ty Z h a vs) (W : Wr h h' a j v) : oA ty Z h' a (vs.set j v) := by
  obtain ⟨q, cl, A, r⟩ := A
  refine ⟨by rw [List.length_set]; exact q, _, A.same W, ?_⟩
  show cl.slots.setIfInBounds j v = _
  rw [r, List.setIfInBounds_toArray]
theorem o_inb {cl : Cell} {vs : List Value} {j : Int32} {i : Nat} (r : cl.slots = vs.toArray) (h0 : j.toInt = (i : Int)) (h1 : i < vs.length) : ¬ (j < 0 ∨ cl.slots.size ≤ j.toNatClampNeg) := by
  have e0 : (0 : Int32).toInt = 0 := rfl
  have e1 : cl.slots.size = vs.length := by rw [r]; simp
  rw [Int32.lt_iff_toInt_lt, e0, e1]
  simp only [Int32.toNatClampNeg]; omega
theorem o_nat {j : Int32} {i : Nat} (h0 : j.toInt = (i : Int)) : j.toNatClampNeg = i := by
  simp only [Int32.toNatClampNeg]; omega
theorem o_elt {cl : Cell} {vs : List Value} {j : Int32} {i : Nat} {v : Value} (r : cl.slots = vs.toArray) (h0 : j.toInt = (i : Int)) (hv : vs[i]? = some v) : cl.slots[j.toNatClampNeg]? = some v := by
  rw [r, o_nat h0]; simpa using hv
theorem o_lt_of {vs : List Value} {i : Nat} {v : Value} (hv : vs[i]? = some v) : i < vs.length := (List.getElem?_eq_some_iff.mp hv).1
theorem o_newarr (H : oH p l e R s m args below meth c bc ml y rt Z n0 T h cells slots) {aty : ArrayType} {z : Int32} (cap n : Nat) (w : (Jvm.Cond.arrayClass (newarray.typeOf aty)).before a0 Z = true) (hz : z.toInt = (n : Int)) (hcap : n ≤ cap) (hb8 : cap * 8 ≤ 536870912) (hd : decode bc pc = .ok (.newarray aty, 2)) (hp : pc + 2 = pc') (hc : cells + 1 ≤ R.cells) (hl : slots + cap ≤ R.slots)
    (k : ∀ (T' : State) (h' : Heap) (a : Addr), a = h.size → oH p l e R s m args below meth c bc ml y rt Z n0 T' h' (cells + 1) (slots + cap) → Ext h h' → oA (newarray.typeOf aty) Z h' a (List.replicate n (defaultValue (newarray.typeOf aty))) → oG p e below s n0 kc ks Q (T'.setTop (mkF m pc' L (.ref a :: S)))) : oG p e below s n0 kc ks Q (T.setTop (mkF m pc L (.int z :: S))) := by
  obtain ⟨locs, X, eT, N, hx, hby, hml, hZ, hown, hnm, hret, hlk, hn⟩ := H
  subst hp
  have e0 : (0 : Int32).toInt = 0 := rfl
  obtain ⟨T', h', kk, X', e', E, A, st⟩ := newP X hx hZ w eT (g := mkF m pc L (.int z :: S)) rfl (hb hby hd) rfl (by rw [Int32.lt_iff_toInt_lt, e0]; omega) (cap := cap) (by simp only [Int32.toNatClampNeg]; omega) hb8 hc hl
  refine oG.go st (k T' h' _ rfl ⟨locs, X', e', N, hx, hby, hml, hZ, hown, hnm, hret, hlk, hn⟩ E ⟨?_, _, A, ?_⟩)
  · have := Int32.toInt_lt z
    rw [List.length_replicate]; omega
  · show Array.replicate z.toNatClampNeg _ = _
    rw [o_nat hz, ← List.toArray_replicate]
theorem o_iaload (H : oH p l e R s m args below meth c bc ml y rt Z n0 T h cells slots) {a : Addr} {j : Int32} {vs : List Value} (i : Nat) (v : Value) (A : oA .int Z h a vs) (h0 : j.toInt = (i : Int)) (hv : vs[i]? = some v) (hd : decode bc pc = .ok (.iaload, 1)) (hp : pc + 1 = pc') (k : oG p e below s n0 kc ks Q (T.setTop (mkF m pc' L (v :: S)))) : oG p e below s n0 kc ks Q (T.setTop (mkF m pc L (.int j :: .ref a :: S))) := by
  obtain ⟨locs, X, eT, N, hx, hby, hml, hZ, hown, hnm, hret, hlk, hn⟩ := H
  subst hp
  obtain ⟨-, cl, A, r⟩ := A
  exact oG.go (fun t hr => X.iaload hx (j := j) (v := v) (by rw [eT]; exact A.1) (State.isArrayOf_alike hZ.alike A.2.1) A.2.2 (o_inb r h0 (o_lt_of hv)) (o_elt r h0 hv) (g := mkF m pc L (.int j :: .ref a :: S)) rfl rfl (hb hby hd) t hr) k
theorem o_caload (H : oH p l e R s m args below meth c bc ml y rt Z n0 T h cells slots) {a : Addr} {j : Int32} {vs : List Value} (i : Nat) (v : Value) (A : oA .char Z h a vs) (h0 : j.toInt = (i : Int)) (hv : vs[i]? = some v) (hd : decode bc pc = .ok (.caload, 1)) (hp : pc + 1 = pc') (k : oG p e below s n0 kc ks Q (T.setTop (mkF m pc' L (v :: S)))) : oG p e below s n0 kc ks Q (T.setTop (mkF m pc L (.int j :: .ref a :: S))) := by
  obtain ⟨locs, X, eT, N, hx, hby, hml, hZ, hown, hnm, hret, hlk, hn⟩ := H
  subst hp
  obtain ⟨-, cl, A, r⟩ := A
  exact oG.go (fun t hr => X.caload hx (j := j) (v := v) (by rw [eT]; exact A.1) (State.isArrayOf_alike hZ.alike A.2.1) A.2.2 (o_inb r h0 (o_lt_of hv)) (o_elt r h0 hv) (g := mkF m pc L (.int j :: .ref a :: S)) rfl rfl (hb hby hd) t hr) k
theorem o_baload (H : oH p l e R s m args below meth c bc ml y rt Z n0 T h cells slots) {a : Addr} {j : Int32} {vs : List Value} (i : Nat) (v : Value) (A : oA .byte Z h a vs) (h0 : j.toInt = (i : Int)) (hv : vs[i]? = some v) (hd : decode bc pc = .ok (.baload, 1)) (hp : pc + 1 = pc') (k : oG p e below s n0 kc ks Q (T.setTop (mkF m pc' L (v :: S)))) : oG p e below s n0 kc ks Q (T.setTop (mkF m pc L (.int j :: .ref a :: S))) := by
  obtain ⟨locs, X, eT, N, hx, hby, hml, hZ, hown, hnm, hret, hlk, hn⟩ := H
  subst hp
  obtain ⟨-, cl, A, r⟩ := A
  exact oG.go (fun t hr => X.baloadBytes hx (j := j) (v := v) (by rw [eT]; exact A.1) (State.isArrayOf_alike hZ.alike A.2.1) A.2.2 (o_inb r h0 (o_lt_of hv)) (o_elt r h0 hv) (g := mkF m pc L (.int j :: .ref a :: S)) rfl rfl (hb hby hd) t hr) k
theorem o_laload (H : oH p l e R s m args below meth c bc ml y rt Z n0 T h cells slots) {a : Addr} {j : Int32} {vs : List Value} (i : Nat) (v : Value) (A : oA .long Z h a vs) (h0 : j.toInt = (i : Int)) (hv : vs[i]? = some v) (hd : decode bc pc = .ok (.laload, 1)) (hp : pc + 1 = pc') (k : oG p e below s n0 kc ks Q (T.setTop (mkF m pc' L (v :: S)))) : oG p e below s n0 kc ks Q (T.setTop (mkF m pc L (.int j :: .ref a :: S))) := by
  obtain ⟨locs, X, eT, N, hx, hby, hml, hZ, hown, hnm, hret, hlk, hn⟩ := H
  subst hp
  obtain ⟨-, cl, A, r⟩ := A
  exact oG.go (fun t hr => X.laload hx (j := j) (v := v) (by rw [eT]; exact A.1) (State.isArrayOf_alike hZ.alike A.2.1) A.2.2 (o_inb r h0 (o_lt_of hv)) (o_elt r h0 hv) (g := mkF m pc L (.int j :: .ref a :: S)) rfl rfl (hb hby hd) t hr) k
theorem o_arraylength (H : oH p l e R s m args below meth c bc ml y rt Z n0 T h cells slots) {a : Addr} {ty : FieldType} {vs : List Value} (z : Int32) (A : oA ty Z h a vs) (hz : vs.length.toInt32 = z) (hd : decode bc pc = .ok (.arraylength, 1)) (hp : pc + 1 = pc') (k : oG p e below s n0 kc ks Q (T.setTop (mkF m pc' L (.int z :: S)))) : oG p e below s n0 kc ks Q (T.setTop (mkF m pc L (.ref a :: S))) := by
  obtain ⟨locs, X, eT, N, hx, hby, hml, hZ, hown, hnm, hret, hlk, hn⟩ := H
  subst hp
  obtain ⟨-, cl, A, r⟩ := A
  have e1 : cl.slots.size.toInt32 = z := by rw [← hz, r]; simp
  exact oG.go (fun t hr => X.arraylength hx (by rw [eT]; exact A.1) (State.isArrayOf_alike hZ.alike A.2.1) (g := mkF m pc L (.ref a :: S)) rfl rfl (hb hby hd) t (by rw [e1]; exact hr)) k
theorem o_iastore (H : oH p l e R s m args below meth c bc ml y rt Z n0 T h cells slots) {a : Addr} {j : Int32} {z : Int32} {vs : List Value} (i : Nat) (A : oA .int Z h a vs) (h0 : j.toInt = (i : Int)) (h1 : i < vs.length) (ha : n0 ≤ a) (hd : decode bc pc = .ok (.iastore, 1)) (hp : pc + 1 = pc')
    (k : ∀ (T' : State) (h' : Heap), oH p l e R s m args below meth c bc ml y rt Z n0 T' h' cells slots → Wr h h' a i (.int z) → oA .int Z h' a (vs.set i (.int z)) → oG p e below s n0 kc ks Q (T'.setTop (mkF m pc' L S))) : oG p e below s n0 kc ks Q (T.setTop (mkF m pc L (.int z :: .int j :: .ref a :: S))) := by
  obtain ⟨locs, X, eT, N, hx, hby, hml, hZ, hown, hnm, hret, hlk, hn⟩ := H
  subst hp
  have A' := A
  obtain ⟨-, cl, A, r⟩ := A
  obtain ⟨T', h', X', e', W, st⟩ := stI X hx hZ eT A (j := j) (o_inb r h0 h1) (g := mkF m pc L (.int z :: .int j :: .ref a :: S)) rfl rfl (hb hby hd)
  have en := o_nat h0
  have W2 : Wr h h' a i _ := en ▸ W
  exact oG.go st (k T' h' ⟨_, X', e', Fr.snoc X' N ha, hx, hby, hml, hZ, hown, hnm, hret, hlk, hn⟩ W2 (A'.same W2))
theorem o_castore (H : oH p l e R s m args below meth c bc ml y rt Z n0 T h cells slots) {a : Addr} {j : Int32} {z : Int32} {vs : List Value} (i : Nat) (A : oA .char Z h a vs) (h0 : j.toInt = (i : Int)) (h1 : i < vs.length) (ha : n0 ≤ a) (hd : decode bc pc = .ok (.castore, 1)) (hp : pc + 1 = pc')
    (k : ∀ (T' : State) (h' : Heap), oH p l e R s m args below meth c bc ml y rt Z n0 T' h' cells slots → Wr h h' a i (.int (nar .char z)) → oA .char Z h' a (vs.set i (.int (nar .char z))) → oG p e below s n0 kc ks Q (T'.setTop (mkF m pc' L S))) : oG p e below s n0 kc ks Q (T.setTop (mkF m pc L (.int z :: .int j :: .ref a :: S))) := by
  obtain ⟨locs, X, eT, N, hx, hby, hml, hZ, hown, hnm, hret, hlk, hn⟩ := H
  subst hp
  have A' := A
  obtain ⟨-, cl, A, r⟩ := A
  obtain ⟨T', h', X', e', W, st⟩ := stC X hx hZ eT A (j := j) (o_inb r h0 h1) (g := mkF m pc L (.int z :: .int j :: .ref a :: S)) rfl rfl (hb hby hd)
  have en := o_nat h0
  have W2 : Wr h h' a i _ := en ▸ W
  exact oG.go st (k T' h' ⟨_, X', e', Fr.snoc X' N ha, hx, hby, hml, hZ, hown, hnm, hret, hlk, hn⟩ W2 (A'.same W2))
theorem o_bastore (H : oH p l e R s m args below meth c bc ml y rt Z n0 T h cells slots) {a : Addr} {j : Int32} {z : Int32} {vs : List Value} (i : Nat) (A : oA .byte Z h a vs) (h0 : j.toInt = (i : Int)) (h1 : i < vs.length) (ha : n0 ≤ a) (hd : decode bc pc = .ok (.bastore, 1)) (hp : pc + 1 = pc')
    (k : ∀ (T' : State) (h' : Heap), oH p l e R s m args below meth c bc ml y rt Z n0 T' h' cells slots → Wr h h' a i (.int (nar .byte z)) → oA .byte Z h' a (vs.set i (.int (nar .byte z))) → oG p e below s n0 kc ks Q (T'.setTop (mkF m pc' L S))) : oG p e below s n0 kc ks Q (T.setTop (mkF m pc L (.int z :: .int j :: .ref a :: S))) := by
  obtain ⟨locs, X, eT, N, hx, hby, hml, hZ, hown, hnm, hret, hlk, hn⟩ := H
  subst hp
  have A' := A
  obtain ⟨-, cl, A, r⟩ := A
  obtain ⟨T', h', X', e', W, st⟩ := stB X hx hZ eT A (j := j) (o_inb r h0 h1) (g := mkF m pc L (.int z :: .int j :: .ref a :: S)) rfl rfl (hb hby hd)
  have en := o_nat h0
  have W2 : Wr h h' a i _ := en ▸ W
  exact oG.go st (k T' h' ⟨_, X', e', Fr.snoc X' N ha, hx, hby, hml, hZ, hown, hnm, hret, hlk, hn⟩ W2 (A'.same W2))
theorem o_lastore (H : oH p l e R s m args below meth c bc ml y rt Z n0 T h cells slots) {a : Addr} {j : Int32} {z : Int64} {vs : List Value} (i : Nat) (A : oA .long Z h a vs) (h0 : j.toInt = (i : Int)) (h1 : i < vs.length) (ha : n0 ≤ a) (hd : decode bc pc = .ok (.lastore, 1)) (hp : pc + 1 = pc')
    (k : ∀ (T' : State) (h' : Heap), oH p l e R s m args below meth c bc ml y rt Z n0 T' h' cells slots → Wr h h' a i (.long z) → oA .long Z h' a (vs.set i (.long z)) → oG p e below s n0 kc ks Q (T'.setTop (mkF m pc' L S))) : oG p e below s n0 kc ks Q (T.setTop (mkF m pc L (.long z :: .int j :: .ref a :: S))) := by
  obtain ⟨locs, X, eT, N, hx, hby, hml, hZ, hown, hnm, hret, hlk, hn⟩ := H
  subst hp
  have A' := A
  obtain ⟨-, cl, A, r⟩ := A
  obtain ⟨T', h', X', e', W, st⟩ := stJ X hx hZ eT A (j := j) (o_inb r h0 h1) (g := mkF m pc L (.long z :: .int j :: .ref a :: S)) rfl rfl (hb hby hd)
  have en := o_nat h0
  have W2 : Wr h h' a i _ := en ▸ W
  exact oG.go st (k T' h' ⟨_, X', e', Fr.snoc X' N ha, hx, hby, hml, hZ, hown, hnm, hret, hlk, hn⟩ W2 (A'.same W2))
theorem o_static (H : oH p l e R s m args below meth c bc ml y rt Z n0 T h cells slots) {yc : MethodName} {bcc : ByteArray} {maxL i : Nat} {rtc : Option FieldType} {rm : Room} {Q' : Option Value → Heap → Prop} {St : List Value} (argsL : List Value) (S : List Value)
    (con : oC l Z n0 yc bcc maxL rtc rm rm.cells rm.slots argsL.toArray h Q') (wl : (Jvm.Cond.methodLink y.cls i yc).before a0 Z = true) (ws : (Jvm.Cond.static yc).before a0 Z = true) (wz : (Jvm.Cond.initialized yc.cls).before a0 Z = true) (wc : (Jvm.Cond.code yc bcc maxL rtc).before a0 Z = true) (hy : yc.cls ≠ "java/lang/invoke/MethodHandle" ∧ yc.cls ≠ "java/lang/invoke/VarHandle") (hlen : ∀ sig, parseMethodDescriptor yc.desc = some sig → argsL.length = sig.parameters.length) (hst : St = argsL.reverse ++ S) (hsz : L.size = ml) (hf : rm.frames + 1 ≤ R.frames) (hlo : (S.map fun v => v.category).sum + (maxL + 11) + rm.locals ≤ R.locals) (hc : cells + rm.cells ≤ R.cells) (hs : slots + rm.slots ≤ R.slots)
    (hd : decode bc pc = .ok (.invokestatic i, 3)) (hp : pc + 3 = pc') (k : ∀ (T' : State) (v : Option Value) (h' : Heap), oH p l e R s m args below meth c bc ml y rt Z n0 T' h' (cells + rm.cells) (slots + rm.slots) → Q' v h' → oG p e below s n0 kc ks Q (T'.setTop (mkF m pc' L (v.toList ++ S)))) : oG p e below s n0 kc ks Q (T.setTop (mkF m pc L St)) := by
  obtain ⟨locs, X, eT, N, hx, hby, hml, hZ, hown, hnm, hret, hlk, hn⟩ := H
  subst hp
  subst hst
  obtain ⟨v, _, ⟨T', L1, k1, n1⟩, -, X', ⟨Lc, hQ, l', y', z'⟩, st⟩ := Jvm.LawKit.callS X hx (y := yc) hown (mvT hZ wl) (mvT hZ ws) (mvT hZ wz) (mvT hZ wc) hy (backOf (W := (S.map fun v => v.category).sum) (Q := fun v h L => Q' v h ∧ Fr n0 L) (con []) hZ wc wz hf hlo) (g := mkF m pc L (argsL.reverse ++ S)) rfl (by rw [hml]; exact hsz) (argsL := argsL) (rest := S) hlen rfl (by show 2 * 0 + _ ≤ _; omega) (hb hby hd) (fun _ _ => ⟨rfl, eT, hc, hs⟩)
  dsimp only [Pt.U, Pt.locs, Pt.cells, Pt.slots] at X' l' y' z' st hQ
  subst l' y' z'
  exact oG.go (st) (k _ _ _ ⟨_, X', rfl, Fr.app N hQ.2, hx, hby, hml, hZ, hown, hnm, hret, hlk, hn⟩ hQ.1)
theorem o_special (H : oH p l e R s m args below meth c bc ml y rt Z n0 T h cells slots) {yc : MethodName} {bcc : ByteArray} {maxL i : Nat} {rm : Room} {a : Addr} {Q' : Option Value → Heap → Prop} {St : List Value} (argsL : List Value) (S : List Value)
    (con : oC l Z n0 yc bcc maxL none rm rm.cells rm.slots (.ref a :: argsL).toArray h Q') (hy1 : yc.name = "<init>") (wl : (Jvm.Cond.methodLink y.cls i yc).before a0 Z = true) (ws : (Jvm.Cond.instanceMethod yc).before a0 Z = true) (wz : (Jvm.Cond.initialized yc.cls).before a0 Z = true) (wc : (Jvm.Cond.code yc bcc maxL none).before a0 Z = true) (hy : yc.cls ≠ "java/lang/invoke/MethodHandle" ∧ yc.cls ≠ "java/lang/invoke/VarHandle") (hlen : ∀ sig, parseMethodDescriptor yc.desc = some sig → argsL.length = sig.parameters.length) (hst : St = argsL.reverse ++ .ref a :: S) (hsz : L.size = ml) (hf : rm.frames + 1 ≤ R.frames) (hlo : (S.map fun v => v.category).sum + (maxL + 11) + rm.locals ≤ R.locals) (hc : cells + rm.cells ≤ R.cells) (hs : slots + rm.slots ≤ R.slots)
    (hd : decode bc pc = .ok (.invokespecial i, 3)) (hp : pc + 3 = pc') (k : ∀ (T' : State) (v : Option Value) (h' : Heap), oH p l e R s m args below meth c bc ml y rt Z n0 T' h' (cells + rm.cells) (slots + rm.slots) → Q' v h' → oG p e below s n0 kc ks Q (T'.setTop (mkF m pc' L (v.toList ++ S)))) : oG p e below s n0 kc ks Q (T.setTop (mkF m pc L St)) := by
  obtain ⟨locs, X, eT, N, hx, hby, hml, hZ, hown, hnm, hret, hlk, hn⟩ := H
  subst hp
  subst hst
  obtain ⟨v, _, ⟨T', L1, k1, n1⟩, -, X', ⟨Lc, hQ, l', y', z'⟩, st⟩ := X.specialBack hx (y := yc) hy1 hown (mvT hZ wl) (mvT hZ ws) (mvT hZ wc) hy (backOf (W := (S.map fun v => v.category).sum) (Q := fun v h L => Q' v h ∧ Fr n0 L) (con []) hZ wc wz hf hlo) (g := mkF m pc L (argsL.reverse ++ .ref a :: S)) rfl (by rw [hml]; exact hsz) (Steps.refl _) (a := a) (argsL := argsL) (rest := S) hlen rfl (by show 2 * 0 + _ ≤ _; omega) (hb hby hd) (fun _ _ => ⟨rfl, eT, hc, hs⟩)
  dsimp only [Pt.U, Pt.locs, Pt.cells, Pt.slots] at X' l' y' z' st hQ
  subst l' y' z'
  exact oG.go (fun _ hr => st.trans hr) (k _ _ _ ⟨_, X', rfl, Fr.app N hQ.2, hx, hby, hml, hZ, hown, hnm, hret, hlk, hn⟩ hQ.1)
theorem o_virtual (H : oH p l e R s m args below meth c bc ml y rt Z n0 T h cells slots) {yc zc : MethodName} {K : String} {bcc : ByteArray} {maxL i : Nat} {rtc : Option FieldType} {rm : Room} {a : Addr} {Q' : Option Value → Heap → Prop} {St : List Value} (argsL : List Value) (S : List Value)
    (con : oC l Z n0 zc bcc maxL rtc rm rm.cells rm.slots (.ref a :: argsL).toArray h Q') (E : Exa Z h a K) (wl : (Jvm.Cond.methodLink y.cls i yc).before a0 Z = true) (wd : (Jvm.Cond.declares yc).before a0 Z = true) (hnf : ∀ {s' : State}, Z.Warmed39 s'.vm → NotFace s' yc) (wsel : (Jvm.Cond.selects K yc zc).before a0 Z = true) (ws : (Jvm.Cond.instanceMethod zc).before a0 Z = true) (wz : (Jvm.Cond.initialized zc.cls).before a0 Z = true) (wc : (Jvm.Cond.code zc bcc maxL rtc).before a0 Z = true) (hy : yc.cls ≠ "java/lang/invoke/MethodHandle" ∧ yc.cls ≠ "java/lang/invoke/VarHandle") (hlen : ∀ sig, parseMethodDescriptor yc.desc = some sig → argsL.length = sig.parameters.length) (hst : St = argsL.reverse ++ .ref a :: S) (hsz : L.size = ml) (hf : rm.frames + 1 ≤ R.frames) (hlo : (S.map fun v => v.category).sum + (maxL + 11) + rm.locals ≤ R.locals) (hc : cells + rm.cells ≤ R.cells) (hs : slots + rm.slots ≤ R.slots)
    (hd : decode bc pc = .ok (.invokevirtual i, 3)) (hp : pc + 3 = pc') (k : ∀ (T' : State) (v : Option Value) (h' : Heap), oH p l e R s m args below meth c bc ml y rt Z n0 T' h' (cells + rm.cells) (slots + rm.slots) → Q' v h' → oG p e below s n0 kc ks Q (T'.setTop (mkF m pc' L (v.toList ++ S)))) : oG p e below s n0 kc ks Q (T.setTop (mkF m pc L St)) := by
  obtain ⟨locs, X, eT, N, hx, hby, hml, hZ, hown, hnm, hret, hlk, hn⟩ := H
  subst hp
  subst hst
  obtain ⟨cq, kq, qa, qb, qc⟩ := isOf hZ eT E
  obtain ⟨v, _, ⟨T', L1, k1, n1⟩, -, X', ⟨Lc, hQ, l', y', z'⟩, st⟩ := X.virtualBack hx (y := yc) (z := zc) hown (mvT hZ wl) (mvT hZ wd) (hnf hZ) (mvT hZ wsel) (mvT hZ ws) hy (backOf (W := (S.map fun v => v.category).sum) (Q := fun v h L => Q' v h ∧ Fr n0 L) (con []) hZ wc wz hf hlo) qa qc (g := mkF m pc L (argsL.reverse ++ .ref a :: S)) rfl (by rw [hml]; exact hsz) (Steps.refl _) (argsL := argsL) (rest := S) hlen rfl (by show 2 * 0 + _ ≤ _; omega) (hb hby hd) (fun _ _ => ⟨rfl, eT, hc, hs⟩)
  dsimp only [Pt.U, Pt.locs, Pt.cells, Pt.slots] at X' l' y' z' st hQ
  subst l' y' z'
  exact oG.go (fun _ hr => st.trans hr) (k _ _ _ ⟨_, X', rfl, Fr.app N hQ.2, hx, hby, hml, hZ, hown, hnm, hret, hlk, hn⟩ hQ.1)
theorem o_nf {yc : MethodName} {K : String} (w : (Jvm.Cond.selects K yc yc).before a0 Z = true) : ∀ {s' : State}, Z.Warmed39 s'.vm → NotFace s' yc := fun {s'} hZ => notFace_of_selects (args := #[]) (mvT hZ w)
theorem n_lt (x z : Int32) : x < z ↔ x.toInt < z.toInt := Int32.lt_iff_toInt_lt
theorem n_eq (x z : Int32) : x = z ↔ x.toInt = z.toInt := Int32.toInt_inj.symm
theorem n_ltJ (x z : Int64) : x < z ↔ x.toInt < z.toInt := Int64.lt_iff_toInt_lt
theorem n_eqJ (x z : Int64) : x = z ↔ x.toInt = z.toInt := Int64.toInt_inj.symm
theorem n_and (x z : Int32) (h : 0 ≤ z.toInt) : 0 ≤ (x &&& z).toInt ∧ (x &&& z).toInt ≤ z.toInt := by
  have q : (x &&& z).toBitVec.toNat = x.toBitVec.toNat &&& z.toBitVec.toNat := by show (x.toBitVec &&& z.toBitVec).toNat = _; rw [BitVec.toNat_and]
  have o : x.toBitVec.toNat &&& z.toBitVec.toNat ≤ z.toBitVec.toNat := Nat.and_le_right
  have lm := z.toBitVec.isLt
  change 0 ≤ z.toBitVec.toInt at h
  show 0 ≤ (x &&& z).toBitVec.toInt ∧ (x &&& z).toBitVec.toInt ≤ z.toBitVec.toInt
  rw [BitVec.toInt_eq_toNat_cond] at h
  simp only [BitVec.toInt_eq_toNat_cond, q]
  split at h <;> (repeat' split) <;> omega
theorem n_andJ (x z : Int64) (h : 0 ≤ z.toInt) : 0 ≤ (x &&& z).toInt ∧ (x &&& z).toInt ≤ z.toInt := by
  have q : (x &&& z).toBitVec.toNat = x.toBitVec.toNat &&& z.toBitVec.toNat := by show (x.toBitVec &&& z.toBitVec).toNat = _; rw [BitVec.toNat_and]
  have o : x.toBitVec.toNat &&& z.toBitVec.toNat ≤ z.toBitVec.toNat := Nat.and_le_right
  have lm := z.toBitVec.isLt
  change 0 ≤ z.toBitVec.toInt at h
  show 0 ≤ (x &&& z).toBitVec.toInt ∧ (x &&& z).toBitVec.toInt ≤ z.toBitVec.toInt
  rw [BitVec.toInt_eq_toNat_cond] at h
  simp only [BitVec.toInt_eq_toNat_cond, q]
  split at h <;> (repeat' split) <;> omega
theorem n_rem (x z : Int32) (d : Int) (hd : 0 < d) (hz : z.toInt = d) (hx : 0 ≤ x.toInt) : (x % z).toInt = x.toInt % d := by
  rw [Int32.toInt_mod, hz, Int.tmod_eq_emod_of_nonneg hx]
theorem n_nat (x : Int32) (n : Nat) (h0 : 0 ≤ x.toInt) (h1 : x.toInt < n) : ∃ i : Fin n, x = Int32.ofNat i.1 := by
  refine ⟨⟨x.toInt.toNat, by omega⟩, ?_⟩
  rw [n_eq]
  have := Int32.toInt_lt x
  have e : (Int32.ofNat x.toInt.toNat).toInt = x.toInt.toNat := Int32.toInt_ofNat_of_lt (by omega)
  show x.toInt = (Int32.ofNat x.toInt.toNat).toInt
  rw [e]; omega
end Own
theorem w0 {Z : State} {a0 : Array Value} (hw : ∀ d ∈ tables_1, d.before a0 Z = true) : (Jvm.Cond.classLink "com/example/puncta/puncta/kinetics/ResponseRisesPinLaw" (11 : Nat) "com/example/puncta/puncta/kinetics/Response").before a0 Z = true := hw _ (List.mem_of_getElem? (i := 0) rfl)
theorem w1 {Z : State} {a0 : Array Value} (hw : ∀ d ∈ tables_1, d.before a0 Z = true) : (Jvm.Cond.instantiable "com/example/puncta/puncta/kinetics/Response" (5 : Nat)).before a0 Z = true := hw _ (List.mem_of_getElem? (i := 1) rfl)
theorem w2 {Z : State} {a0 : Array Value} (hw : ∀ d ∈ tables_1, d.before a0 Z = true) : (Jvm.Cond.initialized "com/example/puncta/puncta/kinetics/Response").before a0 Z = true := hw _ (List.mem_of_getElem? (i := 2) rfl)
theorem w3 {Z : State} {a0 : Array Value} (hw : ∀ d ∈ tables_1, d.before a0 Z = true) : (Jvm.Cond.methodLink "com/example/puncta/puncta/kinetics/ResponseRisesPinLaw" (13 : Nat) ({ cls := "com/example/puncta/puncta/kinetics/Response", name := "<init>", desc := "(IIIDD)V" } : Jvm.MethodName)).before a0 Z = true := hw _ (List.mem_of_getElem? (i := 3) rfl)
theorem w4 {Z : State} {a0 : Array Value} (hw : ∀ d ∈ tables_1, d.before a0 Z = true) : (Jvm.Cond.instanceMethod ({ cls := "com/example/puncta/puncta/kinetics/Response", name := "<init>", desc := "(IIIDD)V" } : Jvm.MethodName)).before a0 Z = true := hw _ (List.mem_of_getElem? (i := 4) rfl)
theorem w5 {Z : State} {a0 : Array Value} (hw : ∀ d ∈ tables_1, d.before a0 Z = true) : (Jvm.Cond.code ({ cls := "com/example/puncta/puncta/kinetics/Response", name := "<init>", desc := "(IIIDD)V" } : Jvm.MethodName) prog_17_method_1_code (8 : Nat) (Option.none : Option Jvm.ClassFile.FieldType)).before a0 Z = true := hw _ (List.mem_of_getElem? (i := 5) rfl)
theorem w6 {Z : State} {a0 : Array Value} (hw : ∀ d ∈ tables_1, d.before a0 Z = true) : (Jvm.Cond.methodLink "com/example/puncta/puncta/kinetics/Response" (1 : Nat) ({ cls := "java/lang/Object", name := "<init>", desc := "()V" } : Jvm.MethodName)).before a0 Z = true := hw _ (List.mem_of_getElem? (i := 6) rfl)
theorem w7 {Z : State} {a0 : Array Value} (hw : ∀ d ∈ tables_1, d.before a0 Z = true) : (Jvm.Cond.instanceMethod ({ cls := "java/lang/Object", name := "<init>", desc := "()V" } : Jvm.MethodName)).before a0 Z = true := hw _ (List.mem_of_getElem? (i := 7) rfl)
theorem w8 {Z : State} {a0 : Array Value} (hw : ∀ d ∈ tables_1, d.before a0 Z = true) : (Jvm.Cond.code ({ cls := "java/lang/Object", name := "<init>", desc := "()V" } : Jvm.MethodName) object_method_1_code (1 : Nat) (Option.none : Option Jvm.ClassFile.FieldType)).before a0 Z = true := hw _ (List.mem_of_getElem? (i := 8) rfl)
theorem w9 {Z : State} {a0 : Array Value} (hw : ∀ d ∈ tables_1, d.before a0 Z = true) : (Jvm.Cond.fieldLink "com/example/puncta/puncta/kinetics/Response" (7 : Nat) "com/example/puncta/puncta/kinetics/Response" "stimulationFrame" "I").before a0 Z = true := hw _ (List.mem_of_getElem? (i := 9) rfl)
theorem w10 {Z : State} {a0 : Array Value} (hw : ∀ d ∈ tables_1, d.before a0 Z = true) : (Jvm.Cond.laysFinal "com/example/puncta/puncta/kinetics/Response" "com/example/puncta/puncta/kinetics/Response" "stimulationFrame" "I").before a0 Z = true := hw _ (List.mem_of_getElem? (i := 10) rfl)
theorem w11 {Z : State} {a0 : Array Value} (hw : ∀ d ∈ tables_1, d.before a0 Z = true) : (Jvm.Cond.fieldLink "com/example/puncta/puncta/kinetics/Response" (13 : Nat) "com/example/puncta/puncta/kinetics/Response" "lastFrame" "I").before a0 Z = true := hw _ (List.mem_of_getElem? (i := 11) rfl)
theorem w12 {Z : State} {a0 : Array Value} (hw : ∀ d ∈ tables_1, d.before a0 Z = true) : (Jvm.Cond.laysFinal "com/example/puncta/puncta/kinetics/Response" "com/example/puncta/puncta/kinetics/Response" "lastFrame" "I").before a0 Z = true := hw _ (List.mem_of_getElem? (i := 12) rfl)
theorem w13 {Z : State} {a0 : Array Value} (hw : ∀ d ∈ tables_1, d.before a0 Z = true) : (Jvm.Cond.fieldLink "com/example/puncta/puncta/kinetics/Response" (16 : Nat) "com/example/puncta/puncta/kinetics/Response" "peakFrame" "I").before a0 Z = true := hw _ (List.mem_of_getElem? (i := 13) rfl)
theorem w14 {Z : State} {a0 : Array Value} (hw : ∀ d ∈ tables_1, d.before a0 Z = true) : (Jvm.Cond.laysFinal "com/example/puncta/puncta/kinetics/Response" "com/example/puncta/puncta/kinetics/Response" "peakFrame" "I").before a0 Z = true := hw _ (List.mem_of_getElem? (i := 14) rfl)
theorem w15 {Z : State} {a0 : Array Value} (hw : ∀ d ∈ tables_1, d.before a0 Z = true) : (Jvm.Cond.fieldLink "com/example/puncta/puncta/kinetics/Response" (19 : Nat) "com/example/puncta/puncta/kinetics/Response" "rise" "D").before a0 Z = true := hw _ (List.mem_of_getElem? (i := 15) rfl)
theorem w16 {Z : State} {a0 : Array Value} (hw : ∀ d ∈ tables_1, d.before a0 Z = true) : (Jvm.Cond.laysFinal "com/example/puncta/puncta/kinetics/Response" "com/example/puncta/puncta/kinetics/Response" "rise" "D").before a0 Z = true := hw _ (List.mem_of_getElem? (i := 16) rfl)
theorem w17 {Z : State} {a0 : Array Value} (hw : ∀ d ∈ tables_1, d.before a0 Z = true) : (Jvm.Cond.fieldLink "com/example/puncta/puncta/kinetics/Response" (23 : Nat) "com/example/puncta/puncta/kinetics/Response" "increase" "D").before a0 Z = true := hw _ (List.mem_of_getElem? (i := 17) rfl)
theorem w18 {Z : State} {a0 : Array Value} (hw : ∀ d ∈ tables_1, d.before a0 Z = true) : (Jvm.Cond.laysFinal "com/example/puncta/puncta/kinetics/Response" "com/example/puncta/puncta/kinetics/Response" "increase" "D").before a0 Z = true := hw _ (List.mem_of_getElem? (i := 18) rfl)
theorem w19 {Z : State} {a0 : Array Value} (hw : ∀ d ∈ tables_1, d.before a0 Z = true) : (Jvm.Cond.methodLink "com/example/puncta/puncta/kinetics/ResponseRisesPinLaw" (16 : Nat) ({ cls := "com/example/puncta/puncta/kinetics/Response", name := "rises", desc := "()Z" } : Jvm.MethodName)).before a0 Z = true := hw _ (List.mem_of_getElem? (i := 19) rfl)
theorem w20 {Z : State} {a0 : Array Value} (hw : ∀ d ∈ tables_1, d.before a0 Z = true) : (Jvm.Cond.declares ({ cls := "com/example/puncta/puncta/kinetics/Response", name := "rises", desc := "()Z" } : Jvm.MethodName)).before a0 Z = true := hw _ (List.mem_of_getElem? (i := 20) rfl)
theorem w21 {Z : State} {a0 : Array Value} (hw : ∀ d ∈ tables_1, d.before a0 Z = true) : (Jvm.Cond.instanceMethod ({ cls := "com/example/puncta/puncta/kinetics/Response", name := "rises", desc := "()Z" } : Jvm.MethodName)).before a0 Z = true := hw _ (List.mem_of_getElem? (i := 21) rfl)
theorem w22 {Z : State} {a0 : Array Value} (hw : ∀ d ∈ tables_1, d.before a0 Z = true) : (Jvm.Cond.selects "com/example/puncta/puncta/kinetics/Response" ({ cls := "com/example/puncta/puncta/kinetics/Response", name := "rises", desc := "()Z" } : Jvm.MethodName) ({ cls := "com/example/puncta/puncta/kinetics/Response", name := "rises", desc := "()Z" } : Jvm.MethodName)).before a0 Z = true := hw _ (List.mem_of_getElem? (i := 22) rfl)
theorem w23 {Z : State} {a0 : Array Value} (hw : ∀ d ∈ tables_1, d.before a0 Z = true) : (Jvm.Cond.code ({ cls := "com/example/puncta/puncta/kinetics/Response", name := "rises", desc := "()Z" } : Jvm.MethodName) prog_17_method_7_code (1 : Nat) (Option.some Jvm.ClassFile.FieldType.boolean)).before a0 Z = true := hw _ (List.mem_of_getElem? (i := 23) rfl)
theorem w24 {Z : State} {a0 : Array Value} (hw : ∀ d ∈ tables_1, d.before a0 Z = true) : (Jvm.Cond.constantDouble "com/example/puncta/puncta/kinetics/ResponseRisesPinLaw" (9 : Nat) (4652218415073722368 : UInt64)).before a0 Z = true := hw _ (List.mem_of_getElem? (i := 24) rfl)
theorem w25 {Z : State} {a0 : Array Value} (hw : ∀ d ∈ tables_1, d.before a0 Z = true) : (Jvm.Cond.constantDouble "com/example/puncta/puncta/kinetics/ResponseRisesPinLaw" (7 : Nat) (9223372036854775808 : UInt64)).before a0 Z = true := hw _ (List.mem_of_getElem? (i := 25) rfl)
theorem own_v1024 : Jvm.FP.Core.val64 4652218415073722368 = .fin false (2 ^ 52) (-42) := by decide +kernel
theorem own_v0 : Jvm.FP.Core.val64 0 = .fin false 0 (-1074) := by decide +kernel
open Jvm.FP.Core in
theorem own_quo (k : Int32) (hk : k.toInt ≠ 0) : Jvm.FP.Core.dcmp (Jvm.FP.Core.ddiv (Jvm.FP.Core.i2d k) 4652218415073722368) 0 = some (if k.toInt < 0 then .lt else .gt) := by
  have hW : Whole k.toInt (val64 (Jvm.FP.Core.i2d k)) := i2d_int k
  have hF : Jvm.FP.Core.fits b64 (val64 (Jvm.FP.Core.i2d k)) := by rw [val64_i2d]; exact round_fits good_b64 _
  show Jvm.FP.Core.order (val64 _) (val64 0) = _
  rw [val64_ddiv, own_v1024, own_v0]
  cases hx : val64 (Jvm.FP.Core.i2d k) with
  | nan => rw [hx] at hW; exact hW.elim
  | inf s => rw [hx] at hW; exact hW.elim
  | fin s c q =>
    rw [hx] at hW hF
    have hs := whole_sign hW hk
    obtain ⟨f1, f2, f3, f4⟩ := hF
    have e1 : b64.qmin = -1074 := by decide
    have e2 : b64.tails = 2 ^ 52 := by decide
    have e3 : b64.p = 53 := by decide
    rw [e1] at f2 f4
    rw [e2] at f4
    have hbig : 2 ^ 52 ≤ c * 2 ^ (q - (-42) - (-1074)).toNat := by
      rcases f4 with f4 | f4
      · exfalso
        subst f4
        have hW' : signed s (c * 2 ^ (-1074 : Int).toNat) = k.toInt * ((2 ^ (-(-1074) : Int).toNat : Nat) : Int) := hW
        have a1 : ((-1074 : Int)).toNat = 0 := rfl
        have a2 : (-(-1074) : Int).toNat = 1074 := rfl
        rw [a1, a2] at hW'
        have h1 := congrArg Int.natAbs hW'
        rw [Int.natAbs_mul, Int.natAbs_natCast] at h1
        have h2 : (signed s (c * 2 ^ 0)).natAbs = c := by cases s <;> simp [signed]
        rw [h2] at h1
        rw [e3] at f1
        have h3 : 1 ≤ k.toInt.natAbs := by omega
        have h4 : 2 ^ 1074 ≤ k.toInt.natAbs * 2 ^ 1074 := Nat.le_mul_of_pos_left _ h3
        have h5 : (2 : Nat) ^ 53 ≤ 2 ^ 1074 := Nat.pow_le_pow_right (Nat.succ_pos _) (Nat.le_of_ble_eq_true rfl)
        exact absurd (Nat.lt_of_lt_of_le f1 (Nat.le_trans h5 (h1 ▸ h4))) (Nat.lt_irrefl _)
      · exact Nat.le_trans f4 (Nat.le_mul_of_pos_right _ (Nat.two_pow_pos _))
    have hz : quotient b64 (.fin s c q) (.fin false (2 ^ 52) (-42)) = roundRatio b64 (s != false) c (2 ^ 52) (q - (-42)) := by
      simp only [quotient]
      rw [if_neg (by decide)]
    rw [hz]
    have hb : (s != false) = s := by cases s <;> rfl
    rw [hb]
    have hge := zmag_roundRatio_ge good_b64 (s := s) (A := c) (B := 2 ^ 52) (e := q - (-42)) (e0 := -1074) (V := .fin false 1 (-1074)) (by decide) (by rw [Jvm.FP.Core.fits, e1, e2, e3]; exact ⟨by decide, by decide, by decide, Or.inl rfl⟩) (by rw [e1]; decide) (by omega) (by
      have : zmag b64 (.fin false 1 (-1074)) = 1 := by decide
      rw [this, e1]
      show 1 * 2 ^ ((-1074 : Int) - -1074).toNat * 2 ^ 52 ≤ inUnits c (q - -42) (-1074)
      simpa [inUnits] using hbig)
    have hone : zmag b64 (.fin false 1 (-1074)) = 1 := by decide
    rw [hone] at hge
    rcases roundRatio_cases b64 s c (2 ^ 52) (q - (-42)) with ⟨c', q', hR⟩ | hR
    · rw [hR] at hge ⊢
      have hc' : c' ≠ 0 := by
        rintro rfl
        have : zmag b64 (.fin s 0 q') = 0 := by simp [zmag, inUnits]
        omega
      have hpos : 0 < c' * 2 ^ (q' - min q' (-1074)).toNat := Nat.mul_pos (by omega) (Nat.two_pow_pos _)
      subst hs
      simp only [order, inUnits, signed]
      by_cases hn : k.toInt < 0
      · simp only [hn, decide_true, if_true, Nat.zero_mul]
        congr 1
        rw [Int.compare_eq_lt]; simp only [Bool.false_eq_true, if_false]; omega
      · simp only [hn, decide_false, if_false, Nat.zero_mul]
        congr 1
        rw [Int.compare_eq_gt]; simp only [Bool.false_eq_true, if_false]; omega
    · rw [hR]
      subst hs
      by_cases hn : k.toInt < 0 <;> simp [order, signed, hn] <;> decide
def own_rises (d : UInt64) : Int32 := if ¬ 0 < cmpValue (FP.dcmp d 0) .l then 0 else 1
theorem own_neg : own_rises 9223372036854775808 = 0 := by decide +kernel
theorem own_d0 : Jvm.FP.Core.DInt 0 0 := by
  show Jvm.FP.Core.Whole 0 (Jvm.FP.Core.val64 0)
  rw [own_v0]
  show Jvm.FP.Core.signed false (0 * _) = 0 * _
  rw [Int.zero_mul, Nat.zero_mul]; rfl
theorem own_i (k : Int32) : FP.dcmp (FP.i2d k) 0 = some (compare k.toInt 0) := Jvm.FP.Core.dcmp_int (Jvm.FP.Core.i2d_int k) own_d0
theorem own_i1 {k : Int32} (h : 0 < k) : own_rises (FP.i2d k) = 1 := by
  have h' : compare k.toInt 0 = .gt := by rw [Int.compare_eq_gt]; rw [n_lt] at h; exact h
  rw [own_rises, own_i, h']; decide
theorem own_i0 {k : Int32} (h : ¬ 0 < k) : own_rises (FP.i2d k) = 0 := by
  have h' : ¬ 0 < k.toInt := by rw [n_lt] at h; exact h
  rw [own_rises, own_i]
  cases hc : compare k.toInt 0 with
  | lt => decide
  | eq => decide
  | gt => rw [Int.compare_eq_gt] at hc; exact absurd hc h'
theorem own_q1 {k : Int32} (h : 0 < k) : own_rises (FP.ddiv (FP.i2d k) 4652218415073722368) = 1 := by
  have h' : 0 < k.toInt := by rw [n_lt] at h; exact h
  have e : FP.dcmp (FP.ddiv (FP.i2d k) 4652218415073722368) 0 = some .gt := by
    have q := own_quo k (by omega); rw [if_neg (by omega)] at q; exact q
  rw [own_rises, e]; decide
theorem own_q0 {k : Int32} (h : ¬ 0 < k) : own_rises (FP.ddiv (FP.i2d k) 4652218415073722368) = 0 := by
  have h' : ¬ 0 < k.toInt := by rw [n_lt] at h; exact h
  by_cases hz : k.toInt = 0
  · have e : k = 0 := by rw [n_eq]; exact hz
    subst e; decide +kernel
  · have e : FP.dcmp (FP.ddiv (FP.i2d k) 4652218415073722368) 0 = some .lt := by
      have q := own_quo k hz; rw [if_pos (by omega)] at q; exact q
    rw [own_rises, e]; decide
theorem own_nn (k : Int32) : Jvm.Free.Fl.NoNaN64 (FP.ddiv (FP.i2d k) 4652218415073722368) := Jvm.Free.Fl.ddiv_out (Jvm.Free.Fl.i2d_fin k).noNaN (by decide) (by show (4652218415073722368 : UInt64) &&& 0x7fffffffffffffff ≠ 0; decide)
theorem d1_0 : decode prog_17_method_1_code 0 = .ok (.aload_n 0, 1) := by decide +kernel
theorem d1_1 : decode prog_17_method_1_code 1 = .ok (.invokespecial 1, 3) := by decide +kernel
theorem d1_4 : decode prog_17_method_1_code 4 = .ok (.aload_n 0, 1) := by decide +kernel
theorem d1_5 : decode prog_17_method_1_code 5 = .ok (.iload_n 1, 1) := by decide +kernel
theorem d1_6 : decode prog_17_method_1_code 6 = .ok (.putfield 7, 3) := by decide +kernel
theorem d1_9 : decode prog_17_method_1_code 9 = .ok (.aload_n 0, 1) := by decide +kernel
theorem d1_10 : decode prog_17_method_1_code 10 = .ok (.iload_n 2, 1) := by decide +kernel
theorem d1_11 : decode prog_17_method_1_code 11 = .ok (.putfield 13, 3) := by decide +kernel
theorem d1_14 : decode prog_17_method_1_code 14 = .ok (.aload_n 0, 1) := by decide +kernel
theorem d1_15 : decode prog_17_method_1_code 15 = .ok (.iload_n 3, 1) := by decide +kernel
theorem d1_16 : decode prog_17_method_1_code 16 = .ok (.putfield 16, 3) := by decide +kernel
theorem d1_19 : decode prog_17_method_1_code 19 = .ok (.aload_n 0, 1) := by decide +kernel
theorem d1_20 : decode prog_17_method_1_code 20 = .ok (.dload 4, 2) := by decide +kernel
theorem d1_22 : decode prog_17_method_1_code 22 = .ok (.putfield 19, 3) := by decide +kernel
theorem d1_25 : decode prog_17_method_1_code 25 = .ok (.aload_n 0, 1) := by decide +kernel
theorem d1_26 : decode prog_17_method_1_code 26 = .ok (.dload 6, 2) := by decide +kernel
theorem d1_28 : decode prog_17_method_1_code 28 = .ok (.putfield 23, 3) := by decide +kernel
theorem d1_31 : decode prog_17_method_1_code 31 = .ok (.return_, 1) := by decide +kernel
theorem pn1 : plainFor (⟨"com/example/puncta/puncta/kinetics/Response", "<init>", "(IIIDD)V"⟩ : MethodName) = true := plainFor_of_name (by first | (simp [plainName, overriddenIn]; done) | decide +kernel)
theorem pd1 : parseMethodDescriptor "(IIIDD)V" = some ⟨[.int, .int, .int, .double, .double], none⟩ := by decide +kernel
set_option maxRecDepth 65536 in
set_option maxHeartbeats 40000000 in
theorem rm1 (l : Launch) (Z : State) (a0 : Array Value) (hw : ∀ d ∈ tables_1, d.before a0 Z = true) (a1 : Addr) (p1 : Int32) (p2 : Int32) (p3 : Int32) (p4 : UInt64) (p5 : UInt64)  (h0 : Heap) (n0 : Nat) (Z0 : n0 ≤ h0.size) (E_a1 : Exa Z h0 a1 "com/example/puncta/puncta/kinetics/Response") (g_a1 : n0 ≤ a1) (F_stimulationFrame_a1 : Fld Z h0 a1 "com/example/puncta/puncta/kinetics/Response" "stimulationFrame" "I" (.int (0 : Int32))) (F_lastFrame_a1 : Fld Z h0 a1 "com/example/puncta/puncta/kinetics/Response" "lastFrame" "I" (.int (0 : Int32))) (F_peakFrame_a1 : Fld Z h0 a1 "com/example/puncta/puncta/kinetics/Response" "peakFrame" "I" (.int (0 : Int32))) (F_rise_a1 : Fld Z h0 a1 "com/example/puncta/puncta/kinetics/Response" "rise" "D" (.double (0 : UInt64))) (F_increase_a1 : Fld Z h0 a1 "com/example/puncta/puncta/kinetics/Response" "increase" "D" (.double (0 : UInt64)))  :
    oC l Z n0 (⟨"com/example/puncta/puncta/kinetics/Response", "<init>", "(IIIDD)V"⟩ : MethodName) prog_17_method_1_code 8 none ({ frames := 1, cells := 0, slots := 0, locals := 12 } : Room) 0 0 #[(.ref a1), (.int p1), (.int p2), (.int p3), (.double p4), (.double p5)] h0 (fun v h => v = none ∧ Keep h0 h [a1] ∧ Fld Z h a1 "com/example/puncta/puncta/kinetics/Response" "stimulationFrame" "I" (.int p1) ∧ Fld Z h a1 "com/example/puncta/puncta/kinetics/Response" "lastFrame" "I" (.int p2) ∧ Fld Z h a1 "com/example/puncta/puncta/kinetics/Response" "peakFrame" "I" (.int p3) ∧ Fld Z h a1 "com/example/puncta/puncta/kinetics/Response" "rise" "D" (.double p4) ∧ Fld Z h a1 "com/example/puncta/puncta/kinetics/Response" "increase" "D" (.double p5)) := by
  refine oC.of (L := #[.val (.ref a1), .val (.int p1), .val (.int p2), .val (.int p3), .val (.double p4), .second, .val (.double p5), .second]) pn1 Z0 (fun m => by first | (simp [entryFrame, mkF, argsToLocals, Value.category]; done) | rfl) ?_
  intro p e s m below meth c T H
  refine o_aloadN H rfl rfl d1_0 rfl ?_
  refine o_initO H (w6 hw) (w7 hw) (w8 hw) d1_1 rfl rfl (by decide) (Nat.le_of_ble_eq_true rfl) ?_
  intro T1 H2
  refine o_aloadN H2 rfl rfl d1_4 rfl ?_
  refine o_iloadN H2 rfl d1_5 rfl ?_
  refine o_putF H2 (host := "") (Or.inl (w9 hw)) F_stimulationFrame_a1 E_a1 (Or.inr ⟨(w10 hw), rfl, rfl⟩) (w1 hw) (ty := .int) (by decide) rfl rfl g_a1 d1_6 rfl ?_
  intro T3 h3 H3 W3
  have k4 := (Keep.refl h0 [a1]).wr W3 (Or.inl (by simp))
  have f5 := E_a1.wr W3
  have f6 := F_stimulationFrame_a1.same W3
  have f7 := F_lastFrame_a1.other W3 (Or.inr (slot_ne (Or.inr (w12 hw)) (Or.inr (w10 hw)) (by decide) (t := .int) (t' := .int) (by decide) (by decide)))
  have f8 := F_peakFrame_a1.other W3 (Or.inr (slot_ne (Or.inr (w14 hw)) (Or.inr (w10 hw)) (by decide) (t := .int) (t' := .int) (by decide) (by decide)))
  have f9 := F_rise_a1.other W3 (Or.inr (slot_ne (Or.inr (w16 hw)) (Or.inr (w10 hw)) (by decide) (t := .double) (t' := .int) (by decide) (by decide)))
  have f10 := F_increase_a1.other W3 (Or.inr (slot_ne (Or.inr (w18 hw)) (Or.inr (w10 hw)) (by decide) (t := .double) (t' := .int) (by decide) (by decide)))
  refine o_aloadN H3 rfl rfl d1_9 rfl ?_
  refine o_iloadN H3 rfl d1_10 rfl ?_
  refine o_putF H3 (host := "") (Or.inl (w11 hw)) f7 f5 (Or.inr ⟨(w12 hw), rfl, rfl⟩) (w1 hw) (ty := .int) (by decide) rfl rfl g_a1 d1_11 rfl ?_
  intro T11 h11 H11 W11
  have k12 := k4.wr W11 (Or.inl (by simp))
  have f13 := f5.wr W11
  have f14 := f6.other W11 (Or.inr (slot_ne (Or.inr (w10 hw)) (Or.inr (w12 hw)) (by decide) (t := .int) (t' := .int) (by decide) (by decide)))
  have f15 := f7.same W11
  have f16 := f8.other W11 (Or.inr (slot_ne (Or.inr (w14 hw)) (Or.inr (w12 hw)) (by decide) (t := .int) (t' := .int) (by decide) (by decide)))
  have f17 := f9.other W11 (Or.inr (slot_ne (Or.inr (w16 hw)) (Or.inr (w12 hw)) (by decide) (t := .double) (t' := .int) (by decide) (by decide)))
  have f18 := f10.other W11 (Or.inr (slot_ne (Or.inr (w18 hw)) (Or.inr (w12 hw)) (by decide) (t := .double) (t' := .int) (by decide) (by decide)))
  refine o_aloadN H11 rfl rfl d1_14 rfl ?_
  refine o_iloadN H11 rfl d1_15 rfl ?_
  refine o_putF H11 (host := "") (Or.inl (w13 hw)) f16 f13 (Or.inr ⟨(w14 hw), rfl, rfl⟩) (w1 hw) (ty := .int) (by decide) rfl rfl g_a1 d1_16 rfl ?_
  intro T19 h19 H19 W19
  have k20 := k12.wr W19 (Or.inl (by simp))
  have f21 := f13.wr W19
  have f22 := f14.other W19 (Or.inr (slot_ne (Or.inr (w10 hw)) (Or.inr (w14 hw)) (by decide) (t := .int) (t' := .int) (by decide) (by decide)))
  have f23 := f15.other W19 (Or.inr (slot_ne (Or.inr (w12 hw)) (Or.inr (w14 hw)) (by decide) (t := .int) (t' := .int) (by decide) (by decide)))
  have f24 := f16.same W19
  have f25 := f17.other W19 (Or.inr (slot_ne (Or.inr (w16 hw)) (Or.inr (w14 hw)) (by decide) (t := .double) (t' := .int) (by decide) (by decide)))
  have f26 := f18.other W19 (Or.inr (slot_ne (Or.inr (w18 hw)) (Or.inr (w14 hw)) (by decide) (t := .double) (t' := .int) (by decide) (by decide)))
  refine o_aloadN H19 rfl rfl d1_19 rfl ?_
  refine o_dload H19 rfl d1_20 rfl ?_
  refine o_putF H19 (host := "") (Or.inl (w15 hw)) f25 f21 (Or.inr ⟨(w16 hw), rfl, rfl⟩) (w1 hw) (ty := .double) (by decide) rfl rfl g_a1 d1_22 rfl ?_
  intro T27 h27 H27 W27
  have k28 := k20.wr W27 (Or.inl (by simp))
  have f29 := f21.wr W27
  have f30 := f22.other W27 (Or.inr (slot_ne (Or.inr (w10 hw)) (Or.inr (w16 hw)) (by decide) (t := .int) (t' := .double) (by decide) (by decide)))
  have f31 := f23.other W27 (Or.inr (slot_ne (Or.inr (w12 hw)) (Or.inr (w16 hw)) (by decide) (t := .int) (t' := .double) (by decide) (by decide)))
  have f32 := f24.other W27 (Or.inr (slot_ne (Or.inr (w14 hw)) (Or.inr (w16 hw)) (by decide) (t := .int) (t' := .double) (by decide) (by decide)))
  have f33 := f25.same W27
  have f34 := f26.other W27 (Or.inr (slot_ne (Or.inr (w18 hw)) (Or.inr (w16 hw)) (by decide) (t := .double) (t' := .double) (by decide) (by decide)))
  refine o_aloadN H27 rfl rfl d1_25 rfl ?_
  refine o_dload H27 rfl d1_26 rfl ?_
  refine o_putF H27 (host := "") (Or.inl (w17 hw)) f34 f29 (Or.inr ⟨(w18 hw), rfl, rfl⟩) (w1 hw) (ty := .double) (by decide) rfl rfl g_a1 d1_28 rfl ?_
  intro T35 h35 H35 W35
  have k36 := k28.wr W35 (Or.inl (by simp))
  have f37 := f29.wr W35
  have f38 := f30.other W35 (Or.inr (slot_ne (Or.inr (w10 hw)) (Or.inr (w18 hw)) (by decide) (t := .int) (t' := .double) (by decide) (by decide)))
  have f39 := f31.other W35 (Or.inr (slot_ne (Or.inr (w12 hw)) (Or.inr (w18 hw)) (by decide) (t := .int) (t' := .double) (by decide) (by decide)))
  have f40 := f32.other W35 (Or.inr (slot_ne (Or.inr (w14 hw)) (Or.inr (w18 hw)) (by decide) (t := .int) (t' := .double) (by decide) (by decide)))
  have f41 := f33.other W35 (Or.inr (slot_ne (Or.inr (w16 hw)) (Or.inr (w18 hw)) (by decide) (t := .double) (t' := .double) (by decide) (by decide)))
  have f42 := f34.same W35
  exact o_return H35 rfl d1_31 (by decide) (by decide) ⟨rfl, k36, f38, f39, f40, f41, f42⟩
theorem d3_0 : decode prog_17_method_7_code 0 = .ok (.aload_n 0, 1) := by decide +kernel
theorem d3_1 : decode prog_17_method_7_code 1 = .ok (.getfield 23, 3) := by decide +kernel
theorem d3_4 : decode prog_17_method_7_code 4 = .ok (.dconst 0, 1) := by decide +kernel
theorem d3_5 : decode prog_17_method_7_code 5 = .ok (.dcmp .l, 1) := by decide +kernel
theorem d3_6 : decode prog_17_method_7_code 6 = .ok (.ifCond .le 7, 3) := by decide +kernel
theorem d3_9 : decode prog_17_method_7_code 9 = .ok (.iconst 1, 1) := by decide +kernel
theorem d3_10 : decode prog_17_method_7_code 10 = .ok (.goto 4, 3) := by decide +kernel
theorem d3_13 : decode prog_17_method_7_code 13 = .ok (.iconst 0, 1) := by decide +kernel
theorem d3_14 : decode prog_17_method_7_code 14 = .ok (.ireturn, 1) := by decide +kernel
theorem pn3 : plainFor (⟨"com/example/puncta/puncta/kinetics/Response", "rises", "()Z"⟩ : MethodName) = true := plainFor_of_name (by first | (simp [plainName, overriddenIn]; done) | decide +kernel)
theorem pd3 : parseMethodDescriptor "()Z" = some ⟨[], some .boolean⟩ := by decide +kernel
set_option maxRecDepth 65536 in
set_option maxHeartbeats 40000000 in
theorem rm3 (l : Launch) (Z : State) (a0 : Array Value) (hw : ∀ d ∈ tables_1, d.before a0 Z = true) (a1 : Addr) (d1 : UInt64) (h0 : Heap) (n0 : Nat) (Z0 : n0 ≤ h0.size) (F_increase_a1 : Fld Z h0 a1 "com/example/puncta/puncta/kinetics/Response" "increase" "D" (.double d1)) :
    oC l Z n0 (⟨"com/example/puncta/puncta/kinetics/Response", "rises", "()Z"⟩ : MethodName) prog_17_method_7_code 1 (some .boolean) ({ frames := 0, cells := 0, slots := 0, locals := 0 } : Room) 0 0 #[(.ref a1)] h0 (fun v h => v = some (.int (own_rises d1)) ∧ h0 = h) := by
  refine oC.of (L := #[.val (.ref a1)]) pn3 Z0 (fun m => by first | (simp [entryFrame, mkF, argsToLocals, Value.category]; done) | rfl) ?_
  intro p e s m below meth c T H
  refine o_aloadN H rfl rfl d3_0 rfl ?_
  refine o_getF H (host := "") (Or.inl (w17 hw)) F_increase_a1 d3_1 rfl ?_
  intro T1 H2
  refine o_dconst0 H2 d3_4 rfl ?_
  refine o_dcmpl H2 d3_5 rfl ?_
  refine o_if_le H2 d3_6 (pt := 13) (by decide) (by decide) rfl ?_ ?_
  · intro c6_3
    refine o_iconst H2 (0 : Int32) rfl d3_13 rfl ?_
    exact o_nreturn H2 .boolean rfl (by simp) d3_14 (by decide) (by decide) ⟨by simp [own_rises, nar, c6_3], rfl⟩
  · intro c6_3
    refine o_iconst H2 (1 : Int32) rfl d3_9 rfl ?_
    refine o_goto H2 d3_10 (pt := 14) (by decide) (by decide) ?_
    exact o_nreturn H2 .boolean rfl (by simp) d3_14 (by decide) (by decide) ⟨by simp [own_rises, nar, c6_3], rfl⟩
theorem pn0 : plainFor x = true := plainFor_of_name (by first | (simp [plainName, overriddenIn]; done) | decide +kernel)
set_option maxRecDepth 65536 in
set_option maxHeartbeats 40000000 in
theorem rm0 (l : Launch) (Z : State) (a0 : Array Value) (hw : ∀ d ∈ tables_1, d.before a0 Z = true) (p1 : Int32) (p2 : Int32) (p3 : Int32) (p4 : Int32) (p5 : Int32)  (h0 : Heap) (n0 : Nat) (Z0 : n0 ≤ h0.size)  :
    oC l Z n0 x code maxLocals ret room_1 16 128 #[(.int p1), (.int p2), (.int p3), (.int p4), (.int p5)] h0 (fun v h => v = some (.int 1)) := by
  refine oC.of (L := #[.val (.int p1), .val (.int p2), .val (.int p3), .val (.int p4), .val (.int p5), .unset, .unset, .unset, .unset, .unset]) pn0 Z0 (fun m => by first | (simp [entryFrame, mkF, argsToLocals, Value.category, maxLocals]; done) | rfl) ?_
  intro p e s m below meth c T H
  refine o_iload H rfl at_0 rfl ?_
  refine o_iconst H (3 : Int32) rfl at_2 rfl ?_
  refine o_iand H at_3 rfl ?_
  refine o_istore H (L' := #[.val (.int p1), .val (.int p2), .val (.int p3), .val (.int p4), .val (.int p5), .val (.int (p5 &&& (3 : Int32))), .unset, .unset, .unset, .unset]) rfl at_4 rfl ?_
  refine o_iload H rfl at_6 rfl ?_
  refine o_iconst H (2 : Int32) rfl at_8 rfl ?_
  refine o_icmp_ne H at_9 (pt := 23) (by decide) (by decide) rfl ?_ ?_
  · intro c9_1
    refine o_iload H rfl at_23 rfl ?_
    refine o_iconst H (1 : Int32) rfl at_25 rfl ?_
    refine o_icmp_ne H at_26 (pt := 51) (by decide) (by decide) rfl ?_ ?_
    · intro c26_2
      refine o_iloadN H rfl at_51 rfl ?_
      refine o_i2d H at_52 rfl ?_
      refine o_dstore H (L' := #[.val (.int p1), .val (.int p2), .val (.int p3), .val (.int p4), .val (.int p5), .val (.int (p5 &&& (3 : Int32))), .val (.double (FP.i2d p4)), .second, .unset, .unset]) rfl at_53 rfl ?_
      refine o_iloadN H rfl at_55 rfl ?_
      refine o_if_le H at_56 (pt := 63) (by decide) (by decide) rfl ?_ ?_
      · intro c56_3
        refine o_iconst H (0 : Int32) rfl at_63 rfl ?_
        refine o_istore H (L' := #[.val (.int p1), .val (.int p2), .val (.int p3), .val (.int p4), .val (.int p5), .val (.int (p5 &&& (3 : Int32))), .val (.double (FP.i2d p4)), .second, .val (.int (0 : Int32)), .unset]) rfl at_64 rfl ?_
        refine o_new H (w0 hw) (w1 hw) (w2 hw) at_66 rfl (by decide) (by decide) ?_
        intro T4 h4 b4 g4 H4 E4 A4 D4
        have z4 : n0 ≤ b4 := by rw [g4]; exact H.le
        have y4 : h0.size ≤ b4 := by rw [g4]; exact (Keep.refl h0 []).1
        have k5 := (Keep.refl h0 []).ext E4
        have f6 : Fld Z h4 b4 "com/example/puncta/puncta/kinetics/Response" "stimulationFrame" "I" (.int (0 : Int32)) := D4 (Or.inr (w10 hw)) (ty := .int) (by decide)
        have f7 : Fld Z h4 b4 "com/example/puncta/puncta/kinetics/Response" "lastFrame" "I" (.int (0 : Int32)) := D4 (Or.inr (w12 hw)) (ty := .int) (by decide)
        have f8 : Fld Z h4 b4 "com/example/puncta/puncta/kinetics/Response" "peakFrame" "I" (.int (0 : Int32)) := D4 (Or.inr (w14 hw)) (ty := .int) (by decide)
        have f9 : Fld Z h4 b4 "com/example/puncta/puncta/kinetics/Response" "rise" "D" (.double (0 : UInt64)) := D4 (Or.inr (w16 hw)) (ty := .double) (by decide)
        have f10 : Fld Z h4 b4 "com/example/puncta/puncta/kinetics/Response" "increase" "D" (.double (0 : UInt64)) := D4 (Or.inr (w18 hw)) (ty := .double) (by decide)
        refine o_dup H4 rfl at_69 rfl ?_
        refine o_iloadN H4 rfl at_70 rfl ?_
        refine o_iloadN H4 rfl at_71 rfl ?_
        refine o_iloadN H4 rfl at_72 rfl ?_
        refine o_iloadN H4 rfl at_73 rfl ?_
        refine o_iconst H4 (3 : Int32) rfl at_74 rfl ?_
        refine o_ishr H4 at_75 rfl ?_
        refine o_i2d H4 at_76 rfl ?_
        refine o_dload H4 rfl at_77 rfl ?_
        refine o_special H4 [(.int p1), (.int p2), (.int p3), (.double (FP.i2d (p4 >>> ((3 : Int32) &&& 31)))), (.double (FP.i2d p4))] [(.ref b4)] (rm1 l Z a0 hw b4 p1 p2 p3 (FP.i2d (p4 >>> ((3 : Int32) &&& 31))) (FP.i2d p4) h4 n0 H4.le A4 z4 f6 f7 f8 f9 f10 ) rfl (w3 hw) (w4 hw) (w2 hw) (w5 hw) (by decide) (lenOf pd1 rfl) rfl rfl (by decide) (Nat.le_of_ble_eq_true rfl) (by decide) (by decide) at_79 rfl ?_
        intro T11 v11 h11 H11 q11
        obtain ⟨rfl, K11, F11_0, F11_1, F11_2, F11_3, F11_4⟩ := q11
        have k12 := k5.trans K11 (allS (Or.inr y4) all0)
        have f13 := A4.keep K11
        show oG p e below s n0 _ _ _ (T11.setTop (mkF m 82 #[.val (.int p1), .val (.int p2), .val (.int p3), .val (.int p4), .val (.int p5), .val (.int (p5 &&& (3 : Int32))), .val (.double (FP.i2d p4)), .second, .val (.int (0 : Int32)), .unset] [(.ref b4)]))
        refine o_astore H11 (L' := #[.val (.int p1), .val (.int p2), .val (.int p3), .val (.int p4), .val (.int p5), .val (.int (p5 &&& (3 : Int32))), .val (.double (FP.i2d p4)), .second, .val (.int (0 : Int32)), .val (.ref b4)]) rfl rfl at_82 rfl ?_
        refine o_aload H11 rfl rfl at_84 rfl ?_
        refine o_virtual H11 [] [] (rm3 l Z a0 hw b4 (FP.i2d p4) h11 n0 H11.le F11_4) f13 (w19 hw) (w20 hw) (o_nf (w22 hw)) (w22 hw) (w21 hw) (w2 hw) (w23 hw) (by decide) (lenOf pd3 rfl) rfl rfl (by decide) (Nat.le_of_ble_eq_true rfl) (by decide) (by decide) at_86 rfl ?_
        intro T14 v14 h14 H14 q14
        obtain ⟨rfl, rfl⟩ := q14
        show oG p e below s n0 _ _ _ (T14.setTop (mkF m 89 #[.val (.int p1), .val (.int p2), .val (.int p3), .val (.int p4), .val (.int p5), .val (.int (p5 &&& (3 : Int32))), .val (.double (FP.i2d p4)), .second, .val (.int (0 : Int32)), .val (.ref b4)] [(.int (own_rises (FP.i2d p4)))]))
        refine o_iload H14 rfl at_89 rfl ?_
        refine o_icmp_f H14 at_91 (XT.ii_ne_f (own_i0 c56_3)) rfl ?_
        refine o_iconst H14 (1 : Int32) rfl at_94 rfl ?_
        refine o_goto H14 at_95 (pt := 99) (by decide) (by decide) ?_
        exact o_nreturn H14 .boolean rfl (by simp) at_99 (by decide) (by decide) rfl
      · intro c56_3
        refine o_iconst H (1 : Int32) rfl at_59 rfl ?_
        refine o_goto H at_60 (pt := 64) (by decide) (by decide) ?_
        refine o_istore H (L' := #[.val (.int p1), .val (.int p2), .val (.int p3), .val (.int p4), .val (.int p5), .val (.int (p5 &&& (3 : Int32))), .val (.double (FP.i2d p4)), .second, .val (.int (1 : Int32)), .unset]) rfl at_64 rfl ?_
        refine o_new H (w0 hw) (w1 hw) (w2 hw) at_66 rfl (by decide) (by decide) ?_
        intro T15 h15 b15 g15 H15 E15 A15 D15
        have z15 : n0 ≤ b15 := by rw [g15]; exact H.le
        have y15 : h0.size ≤ b15 := by rw [g15]; exact (Keep.refl h0 []).1
        have k16 := (Keep.refl h0 []).ext E15
        have f17 : Fld Z h15 b15 "com/example/puncta/puncta/kinetics/Response" "stimulationFrame" "I" (.int (0 : Int32)) := D15 (Or.inr (w10 hw)) (ty := .int) (by decide)
        have f18 : Fld Z h15 b15 "com/example/puncta/puncta/kinetics/Response" "lastFrame" "I" (.int (0 : Int32)) := D15 (Or.inr (w12 hw)) (ty := .int) (by decide)
        have f19 : Fld Z h15 b15 "com/example/puncta/puncta/kinetics/Response" "peakFrame" "I" (.int (0 : Int32)) := D15 (Or.inr (w14 hw)) (ty := .int) (by decide)
        have f20 : Fld Z h15 b15 "com/example/puncta/puncta/kinetics/Response" "rise" "D" (.double (0 : UInt64)) := D15 (Or.inr (w16 hw)) (ty := .double) (by decide)
        have f21 : Fld Z h15 b15 "com/example/puncta/puncta/kinetics/Response" "increase" "D" (.double (0 : UInt64)) := D15 (Or.inr (w18 hw)) (ty := .double) (by decide)
        refine o_dup H15 rfl at_69 rfl ?_
        refine o_iloadN H15 rfl at_70 rfl ?_
        refine o_iloadN H15 rfl at_71 rfl ?_
        refine o_iloadN H15 rfl at_72 rfl ?_
        refine o_iloadN H15 rfl at_73 rfl ?_
        refine o_iconst H15 (3 : Int32) rfl at_74 rfl ?_
        refine o_ishr H15 at_75 rfl ?_
        refine o_i2d H15 at_76 rfl ?_
        refine o_dload H15 rfl at_77 rfl ?_
        refine o_special H15 [(.int p1), (.int p2), (.int p3), (.double (FP.i2d (p4 >>> ((3 : Int32) &&& 31)))), (.double (FP.i2d p4))] [(.ref b15)] (rm1 l Z a0 hw b15 p1 p2 p3 (FP.i2d (p4 >>> ((3 : Int32) &&& 31))) (FP.i2d p4) h15 n0 H15.le A15 z15 f17 f18 f19 f20 f21 ) rfl (w3 hw) (w4 hw) (w2 hw) (w5 hw) (by decide) (lenOf pd1 rfl) rfl rfl (by decide) (Nat.le_of_ble_eq_true rfl) (by decide) (by decide) at_79 rfl ?_
        intro T22 v22 h22 H22 q22
        obtain ⟨rfl, K22, F22_0, F22_1, F22_2, F22_3, F22_4⟩ := q22
        have k23 := k16.trans K22 (allS (Or.inr y15) all0)
        have f24 := A15.keep K22
        show oG p e below s n0 _ _ _ (T22.setTop (mkF m 82 #[.val (.int p1), .val (.int p2), .val (.int p3), .val (.int p4), .val (.int p5), .val (.int (p5 &&& (3 : Int32))), .val (.double (FP.i2d p4)), .second, .val (.int (1 : Int32)), .unset] [(.ref b15)]))
        refine o_astore H22 (L' := #[.val (.int p1), .val (.int p2), .val (.int p3), .val (.int p4), .val (.int p5), .val (.int (p5 &&& (3 : Int32))), .val (.double (FP.i2d p4)), .second, .val (.int (1 : Int32)), .val (.ref b15)]) rfl rfl at_82 rfl ?_
        refine o_aload H22 rfl rfl at_84 rfl ?_
        refine o_virtual H22 [] [] (rm3 l Z a0 hw b15 (FP.i2d p4) h22 n0 H22.le F22_4) f24 (w19 hw) (w20 hw) (o_nf (w22 hw)) (w22 hw) (w21 hw) (w2 hw) (w23 hw) (by decide) (lenOf pd3 rfl) rfl rfl (by decide) (Nat.le_of_ble_eq_true rfl) (by decide) (by decide) at_86 rfl ?_
        intro T25 v25 h25 H25 q25
        obtain ⟨rfl, rfl⟩ := q25
        show oG p e below s n0 _ _ _ (T25.setTop (mkF m 89 #[.val (.int p1), .val (.int p2), .val (.int p3), .val (.int p4), .val (.int p5), .val (.int (p5 &&& (3 : Int32))), .val (.double (FP.i2d p4)), .second, .val (.int (1 : Int32)), .val (.ref b15)] [(.int (own_rises (FP.i2d p4)))]))
        refine o_iload H25 rfl at_89 rfl ?_
        refine o_icmp_f H25 at_91 (XT.ii_ne_f (own_i1 c56_3)) rfl ?_
        refine o_iconst H25 (1 : Int32) rfl at_94 rfl ?_
        refine o_goto H25 at_95 (pt := 99) (by decide) (by decide) ?_
        exact o_nreturn H25 .boolean rfl (by simp) at_99 (by decide) (by decide) rfl
    · intro c26_2
      refine o_iloadN H rfl at_29 rfl ?_
      refine o_i2d H at_30 rfl ?_
      refine o_ldcD H (4652218415073722368 : UInt64) (w24 hw) at_31 rfl ?_
      refine o_ddiv H (own_nn p4) at_34 rfl ?_
      refine o_dstore H (L' := #[.val (.int p1), .val (.int p2), .val (.int p3), .val (.int p4), .val (.int p5), .val (.int (p5 &&& (3 : Int32))), .val (.double (FP.ddiv (FP.i2d p4) (4652218415073722368 : UInt64))), .second, .unset, .unset]) rfl at_35 rfl ?_
      refine o_iloadN H rfl at_37 rfl ?_
      refine o_if_le H at_38 (pt := 45) (by decide) (by decide) rfl ?_ ?_
      · intro c38_26
        refine o_iconst H (0 : Int32) rfl at_45 rfl ?_
        refine o_istore H (L' := #[.val (.int p1), .val (.int p2), .val (.int p3), .val (.int p4), .val (.int p5), .val (.int (p5 &&& (3 : Int32))), .val (.double (FP.ddiv (FP.i2d p4) (4652218415073722368 : UInt64))), .second, .val (.int (0 : Int32)), .unset]) rfl at_46 rfl ?_
        refine o_goto H at_48 (pt := 66) (by decide) (by decide) ?_
        refine o_new H (w0 hw) (w1 hw) (w2 hw) at_66 rfl (by decide) (by decide) ?_
        intro T27 h27 b27 g27 H27 E27 A27 D27
        have z27 : n0 ≤ b27 := by rw [g27]; exact H.le
        have y27 : h0.size ≤ b27 := by rw [g27]; exact (Keep.refl h0 []).1
        have k28 := (Keep.refl h0 []).ext E27
        have f29 : Fld Z h27 b27 "com/example/puncta/puncta/kinetics/Response" "stimulationFrame" "I" (.int (0 : Int32)) := D27 (Or.inr (w10 hw)) (ty := .int) (by decide)
        have f30 : Fld Z h27 b27 "com/example/puncta/puncta/kinetics/Response" "lastFrame" "I" (.int (0 : Int32)) := D27 (Or.inr (w12 hw)) (ty := .int) (by decide)
        have f31 : Fld Z h27 b27 "com/example/puncta/puncta/kinetics/Response" "peakFrame" "I" (.int (0 : Int32)) := D27 (Or.inr (w14 hw)) (ty := .int) (by decide)
        have f32 : Fld Z h27 b27 "com/example/puncta/puncta/kinetics/Response" "rise" "D" (.double (0 : UInt64)) := D27 (Or.inr (w16 hw)) (ty := .double) (by decide)
        have f33 : Fld Z h27 b27 "com/example/puncta/puncta/kinetics/Response" "increase" "D" (.double (0 : UInt64)) := D27 (Or.inr (w18 hw)) (ty := .double) (by decide)
        refine o_dup H27 rfl at_69 rfl ?_
        refine o_iloadN H27 rfl at_70 rfl ?_
        refine o_iloadN H27 rfl at_71 rfl ?_
        refine o_iloadN H27 rfl at_72 rfl ?_
        refine o_iloadN H27 rfl at_73 rfl ?_
        refine o_iconst H27 (3 : Int32) rfl at_74 rfl ?_
        refine o_ishr H27 at_75 rfl ?_
        refine o_i2d H27 at_76 rfl ?_
        refine o_dload H27 rfl at_77 rfl ?_
        refine o_special H27 [(.int p1), (.int p2), (.int p3), (.double (FP.i2d (p4 >>> ((3 : Int32) &&& 31)))), (.double (FP.ddiv (FP.i2d p4) (4652218415073722368 : UInt64)))] [(.ref b27)] (rm1 l Z a0 hw b27 p1 p2 p3 (FP.i2d (p4 >>> ((3 : Int32) &&& 31))) (FP.ddiv (FP.i2d p4) (4652218415073722368 : UInt64)) h27 n0 H27.le A27 z27 f29 f30 f31 f32 f33 ) rfl (w3 hw) (w4 hw) (w2 hw) (w5 hw) (by decide) (lenOf pd1 rfl) rfl rfl (by decide) (Nat.le_of_ble_eq_true rfl) (by decide) (by decide) at_79 rfl ?_
        intro T34 v34 h34 H34 q34
        obtain ⟨rfl, K34, F34_0, F34_1, F34_2, F34_3, F34_4⟩ := q34
        have k35 := k28.trans K34 (allS (Or.inr y27) all0)
        have f36 := A27.keep K34
        show oG p e below s n0 _ _ _ (T34.setTop (mkF m 82 #[.val (.int p1), .val (.int p2), .val (.int p3), .val (.int p4), .val (.int p5), .val (.int (p5 &&& (3 : Int32))), .val (.double (FP.ddiv (FP.i2d p4) (4652218415073722368 : UInt64))), .second, .val (.int (0 : Int32)), .unset] [(.ref b27)]))
        refine o_astore H34 (L' := #[.val (.int p1), .val (.int p2), .val (.int p3), .val (.int p4), .val (.int p5), .val (.int (p5 &&& (3 : Int32))), .val (.double (FP.ddiv (FP.i2d p4) (4652218415073722368 : UInt64))), .second, .val (.int (0 : Int32)), .val (.ref b27)]) rfl rfl at_82 rfl ?_
        refine o_aload H34 rfl rfl at_84 rfl ?_
        refine o_virtual H34 [] [] (rm3 l Z a0 hw b27 (FP.ddiv (FP.i2d p4) (4652218415073722368 : UInt64)) h34 n0 H34.le F34_4) f36 (w19 hw) (w20 hw) (o_nf (w22 hw)) (w22 hw) (w21 hw) (w2 hw) (w23 hw) (by decide) (lenOf pd3 rfl) rfl rfl (by decide) (Nat.le_of_ble_eq_true rfl) (by decide) (by decide) at_86 rfl ?_
        intro T37 v37 h37 H37 q37
        obtain ⟨rfl, rfl⟩ := q37
        show oG p e below s n0 _ _ _ (T37.setTop (mkF m 89 #[.val (.int p1), .val (.int p2), .val (.int p3), .val (.int p4), .val (.int p5), .val (.int (p5 &&& (3 : Int32))), .val (.double (FP.ddiv (FP.i2d p4) (4652218415073722368 : UInt64))), .second, .val (.int (0 : Int32)), .val (.ref b27)] [(.int (own_rises (FP.ddiv (FP.i2d p4) (4652218415073722368 : UInt64))))]))
        refine o_iload H37 rfl at_89 rfl ?_
        refine o_icmp_f H37 at_91 (XT.ii_ne_f (own_q0 c38_26)) rfl ?_
        refine o_iconst H37 (1 : Int32) rfl at_94 rfl ?_
        refine o_goto H37 at_95 (pt := 99) (by decide) (by decide) ?_
        exact o_nreturn H37 .boolean rfl (by simp) at_99 (by decide) (by decide) rfl
      · intro c38_26
        refine o_iconst H (1 : Int32) rfl at_41 rfl ?_
        refine o_goto H at_42 (pt := 46) (by decide) (by decide) ?_
        refine o_istore H (L' := #[.val (.int p1), .val (.int p2), .val (.int p3), .val (.int p4), .val (.int p5), .val (.int (p5 &&& (3 : Int32))), .val (.double (FP.ddiv (FP.i2d p4) (4652218415073722368 : UInt64))), .second, .val (.int (1 : Int32)), .unset]) rfl at_46 rfl ?_
        refine o_goto H at_48 (pt := 66) (by decide) (by decide) ?_
        refine o_new H (w0 hw) (w1 hw) (w2 hw) at_66 rfl (by decide) (by decide) ?_
        intro T38 h38 b38 g38 H38 E38 A38 D38
        have z38 : n0 ≤ b38 := by rw [g38]; exact H.le
        have y38 : h0.size ≤ b38 := by rw [g38]; exact (Keep.refl h0 []).1
        have k39 := (Keep.refl h0 []).ext E38
        have f40 : Fld Z h38 b38 "com/example/puncta/puncta/kinetics/Response" "stimulationFrame" "I" (.int (0 : Int32)) := D38 (Or.inr (w10 hw)) (ty := .int) (by decide)
        have f41 : Fld Z h38 b38 "com/example/puncta/puncta/kinetics/Response" "lastFrame" "I" (.int (0 : Int32)) := D38 (Or.inr (w12 hw)) (ty := .int) (by decide)
        have f42 : Fld Z h38 b38 "com/example/puncta/puncta/kinetics/Response" "peakFrame" "I" (.int (0 : Int32)) := D38 (Or.inr (w14 hw)) (ty := .int) (by decide)
        have f43 : Fld Z h38 b38 "com/example/puncta/puncta/kinetics/Response" "rise" "D" (.double (0 : UInt64)) := D38 (Or.inr (w16 hw)) (ty := .double) (by decide)
        have f44 : Fld Z h38 b38 "com/example/puncta/puncta/kinetics/Response" "increase" "D" (.double (0 : UInt64)) := D38 (Or.inr (w18 hw)) (ty := .double) (by decide)
        refine o_dup H38 rfl at_69 rfl ?_
        refine o_iloadN H38 rfl at_70 rfl ?_
        refine o_iloadN H38 rfl at_71 rfl ?_
        refine o_iloadN H38 rfl at_72 rfl ?_
        refine o_iloadN H38 rfl at_73 rfl ?_
        refine o_iconst H38 (3 : Int32) rfl at_74 rfl ?_
        refine o_ishr H38 at_75 rfl ?_
        refine o_i2d H38 at_76 rfl ?_
        refine o_dload H38 rfl at_77 rfl ?_
        refine o_special H38 [(.int p1), (.int p2), (.int p3), (.double (FP.i2d (p4 >>> ((3 : Int32) &&& 31)))), (.double (FP.ddiv (FP.i2d p4) (4652218415073722368 : UInt64)))] [(.ref b38)] (rm1 l Z a0 hw b38 p1 p2 p3 (FP.i2d (p4 >>> ((3 : Int32) &&& 31))) (FP.ddiv (FP.i2d p4) (4652218415073722368 : UInt64)) h38 n0 H38.le A38 z38 f40 f41 f42 f43 f44 ) rfl (w3 hw) (w4 hw) (w2 hw) (w5 hw) (by decide) (lenOf pd1 rfl) rfl rfl (by decide) (Nat.le_of_ble_eq_true rfl) (by decide) (by decide) at_79 rfl ?_
        intro T45 v45 h45 H45 q45
        obtain ⟨rfl, K45, F45_0, F45_1, F45_2, F45_3, F45_4⟩ := q45
        have k46 := k39.trans K45 (allS (Or.inr y38) all0)
        have f47 := A38.keep K45
        show oG p e below s n0 _ _ _ (T45.setTop (mkF m 82 #[.val (.int p1), .val (.int p2), .val (.int p3), .val (.int p4), .val (.int p5), .val (.int (p5 &&& (3 : Int32))), .val (.double (FP.ddiv (FP.i2d p4) (4652218415073722368 : UInt64))), .second, .val (.int (1 : Int32)), .unset] [(.ref b38)]))
        refine o_astore H45 (L' := #[.val (.int p1), .val (.int p2), .val (.int p3), .val (.int p4), .val (.int p5), .val (.int (p5 &&& (3 : Int32))), .val (.double (FP.ddiv (FP.i2d p4) (4652218415073722368 : UInt64))), .second, .val (.int (1 : Int32)), .val (.ref b38)]) rfl rfl at_82 rfl ?_
        refine o_aload H45 rfl rfl at_84 rfl ?_
        refine o_virtual H45 [] [] (rm3 l Z a0 hw b38 (FP.ddiv (FP.i2d p4) (4652218415073722368 : UInt64)) h45 n0 H45.le F45_4) f47 (w19 hw) (w20 hw) (o_nf (w22 hw)) (w22 hw) (w21 hw) (w2 hw) (w23 hw) (by decide) (lenOf pd3 rfl) rfl rfl (by decide) (Nat.le_of_ble_eq_true rfl) (by decide) (by decide) at_86 rfl ?_
        intro T48 v48 h48 H48 q48
        obtain ⟨rfl, rfl⟩ := q48
        show oG p e below s n0 _ _ _ (T48.setTop (mkF m 89 #[.val (.int p1), .val (.int p2), .val (.int p3), .val (.int p4), .val (.int p5), .val (.int (p5 &&& (3 : Int32))), .val (.double (FP.ddiv (FP.i2d p4) (4652218415073722368 : UInt64))), .second, .val (.int (1 : Int32)), .val (.ref b38)] [(.int (own_rises (FP.ddiv (FP.i2d p4) (4652218415073722368 : UInt64))))]))
        refine o_iload H48 rfl at_89 rfl ?_
        refine o_icmp_f H48 at_91 (XT.ii_ne_f (own_q1 c38_26)) rfl ?_
        refine o_iconst H48 (1 : Int32) rfl at_94 rfl ?_
        refine o_goto H48 at_95 (pt := 99) (by decide) (by decide) ?_
        exact o_nreturn H48 .boolean rfl (by simp) at_99 (by decide) (by decide) rfl
  · intro c9_1
    refine o_ldcD H (9223372036854775808 : UInt64) (w25 hw) at_12 rfl ?_
    refine o_dstore H (L' := #[.val (.int p1), .val (.int p2), .val (.int p3), .val (.int p4), .val (.int p5), .val (.int (p5 &&& (3 : Int32))), .val (.double (9223372036854775808 : UInt64)), .second, .unset, .unset]) rfl at_15 rfl ?_
    refine o_iconst H (0 : Int32) rfl at_17 rfl ?_
    refine o_istore H (L' := #[.val (.int p1), .val (.int p2), .val (.int p3), .val (.int p4), .val (.int p5), .val (.int (p5 &&& (3 : Int32))), .val (.double (9223372036854775808 : UInt64)), .second, .val (.int (0 : Int32)), .unset]) rfl at_18 rfl ?_
    refine o_goto H at_20 (pt := 66) (by decide) (by decide) ?_
    refine o_new H (w0 hw) (w1 hw) (w2 hw) at_66 rfl (by decide) (by decide) ?_
    intro T49 h49 b49 g49 H49 E49 A49 D49
    have z49 : n0 ≤ b49 := by rw [g49]; exact H.le
    have y49 : h0.size ≤ b49 := by rw [g49]; exact (Keep.refl h0 []).1
    have k50 := (Keep.refl h0 []).ext E49
    have f51 : Fld Z h49 b49 "com/example/puncta/puncta/kinetics/Response" "stimulationFrame" "I" (.int (0 : Int32)) := D49 (Or.inr (w10 hw)) (ty := .int) (by decide)
    have f52 : Fld Z h49 b49 "com/example/puncta/puncta/kinetics/Response" "lastFrame" "I" (.int (0 : Int32)) := D49 (Or.inr (w12 hw)) (ty := .int) (by decide)
    have f53 : Fld Z h49 b49 "com/example/puncta/puncta/kinetics/Response" "peakFrame" "I" (.int (0 : Int32)) := D49 (Or.inr (w14 hw)) (ty := .int) (by decide)
    have f54 : Fld Z h49 b49 "com/example/puncta/puncta/kinetics/Response" "rise" "D" (.double (0 : UInt64)) := D49 (Or.inr (w16 hw)) (ty := .double) (by decide)
    have f55 : Fld Z h49 b49 "com/example/puncta/puncta/kinetics/Response" "increase" "D" (.double (0 : UInt64)) := D49 (Or.inr (w18 hw)) (ty := .double) (by decide)
    refine o_dup H49 rfl at_69 rfl ?_
    refine o_iloadN H49 rfl at_70 rfl ?_
    refine o_iloadN H49 rfl at_71 rfl ?_
    refine o_iloadN H49 rfl at_72 rfl ?_
    refine o_iloadN H49 rfl at_73 rfl ?_
    refine o_iconst H49 (3 : Int32) rfl at_74 rfl ?_
    refine o_ishr H49 at_75 rfl ?_
    refine o_i2d H49 at_76 rfl ?_
    refine o_dload H49 rfl at_77 rfl ?_
    refine o_special H49 [(.int p1), (.int p2), (.int p3), (.double (FP.i2d (p4 >>> ((3 : Int32) &&& 31)))), (.double (9223372036854775808 : UInt64))] [(.ref b49)] (rm1 l Z a0 hw b49 p1 p2 p3 (FP.i2d (p4 >>> ((3 : Int32) &&& 31))) (9223372036854775808 : UInt64) h49 n0 H49.le A49 z49 f51 f52 f53 f54 f55 ) rfl (w3 hw) (w4 hw) (w2 hw) (w5 hw) (by decide) (lenOf pd1 rfl) rfl rfl (by decide) (Nat.le_of_ble_eq_true rfl) (by decide) (by decide) at_79 rfl ?_
    intro T56 v56 h56 H56 q56
    obtain ⟨rfl, K56, F56_0, F56_1, F56_2, F56_3, F56_4⟩ := q56
    have k57 := k50.trans K56 (allS (Or.inr y49) all0)
    have f58 := A49.keep K56
    show oG p e below s n0 _ _ _ (T56.setTop (mkF m 82 #[.val (.int p1), .val (.int p2), .val (.int p3), .val (.int p4), .val (.int p5), .val (.int (p5 &&& (3 : Int32))), .val (.double (9223372036854775808 : UInt64)), .second, .val (.int (0 : Int32)), .unset] [(.ref b49)]))
    refine o_astore H56 (L' := #[.val (.int p1), .val (.int p2), .val (.int p3), .val (.int p4), .val (.int p5), .val (.int (p5 &&& (3 : Int32))), .val (.double (9223372036854775808 : UInt64)), .second, .val (.int (0 : Int32)), .val (.ref b49)]) rfl rfl at_82 rfl ?_
    refine o_aload H56 rfl rfl at_84 rfl ?_
    refine o_virtual H56 [] [] (rm3 l Z a0 hw b49 (9223372036854775808 : UInt64) h56 n0 H56.le F56_4) f58 (w19 hw) (w20 hw) (o_nf (w22 hw)) (w22 hw) (w21 hw) (w2 hw) (w23 hw) (by decide) (lenOf pd3 rfl) rfl rfl (by decide) (Nat.le_of_ble_eq_true rfl) (by decide) (by decide) at_86 rfl ?_
    intro T59 v59 h59 H59 q59
    obtain ⟨rfl, rfl⟩ := q59
    show oG p e below s n0 _ _ _ (T59.setTop (mkF m 89 #[.val (.int p1), .val (.int p2), .val (.int p3), .val (.int p4), .val (.int p5), .val (.int (p5 &&& (3 : Int32))), .val (.double (9223372036854775808 : UInt64)), .second, .val (.int (0 : Int32)), .val (.ref b49)] [(.int (own_rises (9223372036854775808 : UInt64)))]))
    refine o_iload H59 rfl at_89 rfl ?_
    refine o_icmp_f H59 at_91 (XT.ii_ne_f own_neg) rfl ?_
    refine o_iconst H59 (1 : Int32) rfl at_94 rfl ?_
    refine o_goto H59 at_95 (pt := 99) (by decide) (by decide) ?_
    exact o_nreturn H59 .boolean rfl (by simp) at_99 (by decide) (by decide) rfl
set_option maxRecDepth 65536 in
set_option maxHeartbeats 40000000 in
theorem comes_1 {Post : Tables → Env → Array Value → State → Outcome → State → Prop} (hpost : ∀ tb e args s v u, (limb_1_1.after args s (.returned v) u = true ∧ limb_1_2.after args s (.returned v) u = true ∧ True) → FrameEnd s (.returned v) u (Jvm.fieldLocs frame_1_writes args s ++ Jvm.arrayLocs frame_1_arrays args s ++ Jvm.staticLocs frame_1_statics s) 16 128 → Post tb e args s (.returned v) u) :
    ArmFor flags0 classFile x code maxLocals ret World_1 tables_1 room_1 Calls_1 rest_1 Pre_1 Post := by
  intro l hfl _ _ p e ha hc hk s m args below hf hA hF happ hP
  obtain ⟨hcalls, hrest, hpre⟩ := hP
  obtain ⟨-, -, -, hnamed, -, -, -, hat⟩ := (Spec.applies_iff hf).mp happ
  obtain ⟨hg, hn⟩ := and_e (Cond.before_iff.mp (show (Jvm.Cond.and given_1 narrow_1).before args s = true from hpre))
  obtain ⟨g0, gs0⟩ := and_e hg
  obtain ⟨a0, gs1⟩ := and_e gs0
  obtain ⟨a1, gs2⟩ := and_e gs1
  obtain ⟨a2, gs3⟩ := and_e gs2
  obtain ⟨a3, gs4⟩ := and_e gs3
  have a4 := gs4
  obtain ⟨w0, w1, w2, w3, w4, rfl⟩ : ∃ w0 w1 w2 w3 w4 : Value, args = #[w0, w1, w2, w3, w4] := by
    have hs : args.size = 5 := by simpa [Cond.value, given_1] using g0
    obtain ⟨L⟩ := args
    match L, hs with
    | [w0, w1, w2, w3, w4], _ => exact ⟨w0, w1, w2, w3, w4, rfl⟩
  have hw := fun d (hd : d ∈ tables_1) => atoms_spec (ws := Jvm.Cond.code x code maxLocals ret :: tables_1) hat d (List.mem_cons_of_mem _ hd)
  have hfit : Fit s := fun {y c} hc i hi => by
    obtain ⟨ha, rfl⟩ := Array.getElem?_eq_some_iff.mp hc
    have q := List.all_eq_true.mp ((Array.all_eq_true_iff_forall_mem.mp hF) _ (Array.getElem_mem ha)) i (List.mem_range.mpr hi)
    simpa [Array.getElem?_eq_getElem hi] using q
  obtain ⟨i0, e0⟩ := is_v a0
  obtain rfl : w0 = (.int i0) := Option.some.inj e0
  obtain ⟨i1, e1⟩ := is_v a1
  obtain rfl : w1 = (.int i1) := Option.some.inj e1
  obtain ⟨i2, e2⟩ := is_v a2
  obtain rfl : w2 = (.int i2) := Option.some.inj e2
  obtain ⟨i3, e3⟩ := is_v a3
  obtain rfl : w3 = (.int i3) := Option.some.inj e3
  obtain ⟨i4, e4⟩ := is_v a4
  obtain rfl : w4 = (.int i4) := Option.some.inj e4
  obtain ⟨n, o, h1, h2, h3, _, L, rfl, ⟨rfl, N⟩, hq⟩ := rm0 l s _ hw i0 i1 i2 i3 i4  s.heap s.heap.size (Nat.le_refl _)  tables_1 p e ha hc hk s m _ below hf ((Spec.applies_iff_loose hf).mp happ).1 ⟨rfl, State.Warmed39.refl s, rfl⟩ trivial
  refine ⟨n, _, h1, h2, h3, hpost _ _ _ _ _ _ ⟨Cond.after_iff.mpr rfl, Cond.after_iff.mpr (eq_i res_at (Term.int_eval (1)) rfl), trivial⟩ ⟨hq.1, hq.2.1, (hq.2.2.sift fun y hy => Or.inr (N y hy)).mono (by decide) (by decide)⟩⟩
theorem main_1_1 : Claimed_1_1 := comes_1 fun _ _ _ _ _ _ h hF => ⟨h.1, hF⟩
theorem main_1_2 : Claimed_1_2 := comes_1 fun _ _ _ _ _ _ h hF => ⟨h.2.1, hF⟩
end Jvm.Pilot.@@N@@
namespace Jvm.Pilot.@@N@@
open Jvm Jvm.ClassFile Sem Op Lib Jvm.Free Jvm.Stand Jvm.Pilot.@@N@@.Jvm.D
/-! MADE BY PROGRAM (witnessworld.py) out of the Statement's table words and the real class files: 9 classes; the members and pool entries that the words name. The judged class is class 1, her method 1. -/
namespace start1
open Jvm.ClassFile
def u (s : String) : CpInfo := .utf8 (stringToUtf16 s)
/-- a pool by its gaps: so many unusable entries, then the entry; so many at the end -/
def gap : Nat → List CpInfo → List CpInfo
  | 0, r => r
  | n + 1, r => .unusable :: gap n r
def poolList (es : List (Nat × CpInfo)) (last : Nat) : List CpInfo := es.foldr (fun e r => gap e.1 (e.2 :: r)) (gap last [])
def pool (es : List (Nat × CpInfo)) (last : Nat) : Array CpInfo := ⟨poolList es last⟩
def fileOf (pool : Array CpInfo) (this : Nat) (attrs : Array Attribute := #[]) (ms : Array MethodInfo := #[]) (fl : Nat := 33) (sup : Nat := 0) (ifs : Array Nat := #[]) (fds : Array FieldInfo := #[]) : ClassFile where
  minorVersion := 0
  majorVersion := 65
  constantPool := pool
  accessFlags := fl
  thisClass := this
  superClass := sup
  interfaces := ifs
  fields := fds
  methods := ms
  attributes := attrs
def plain (name : String) (sup : Option ClassId) : Class where
  name := name
  kind := .ordinary
  loader := none
  accessFlags := 33
  super := sup
  interfaces := #[]
  cf := none
  fields := #[]
  methods := #[]
  instanceTypes := #[]
  staticTypes := #[]
  resolved := #[]
  callSites := []
  init := .initialized
  statics := none
  mirror := none

def pool0 : Array CpInfo := pool [(5, u "<init>"), (0, u "()V"), (1, .class_ 10), (1, u "java/lang/Object")] 113

def k0c0 : Code := { maxStack := 0, maxLocals := 1, code := object_method_1_code, exceptionTable := #[], attributes := #[] }
def k0m0 : Method := { name := "<init>", desc := "()V", sig := { parameters := [], returnType := none }, accessFlags := 1, code := some k0c0 }
/-- java/lang/Object -/
def k0 : Class := { plain "java/lang/Object" none with
  accessFlags := 33
  interfaces := #[]
  cf := some (fileOf pool0 8 #[] #[{ accessFlags := 1, nameIndex := 5, descriptorIndex := 6, attributes := #[] }] 33 0 #[] #[])
  fields := #[]
  methods := #[k0m0]
  instanceTypes := #[]
  staticTypes := #[]
  resolved := Array.replicate 124 none
  statics := none }

def pool1 : Array CpInfo := pool [(2, .class_ 4), (1, u "java/lang/Object"), (0, u "<init>"), (0, u "()V"), (0, .double 9223372036854775808), (1, .double 4652218415073722368), (1, .class_ 12), (0, u "com/example/puncta/puncta/kinetics/Response"), (0, .methodref 11 14), (0, .nameAndType 5 15), (0, u "(IIIDD)V"), (0, .methodref 11 17), (0, .nameAndType 18 19), (0, u "rises"), (0, u "()Z"), (0, .class_ 21), (0, u "com/example/puncta/puncta/kinetics/ResponseRisesPinLaw"), (2, u "law"), (0, u "(IIIII)Z")] 3

def k1m0 : Method := { name := "<init>", desc := "()V", sig := { parameters := [], returnType := none }, accessFlags := 1, code := none }
def k1c1 : Code := { maxStack := 9, maxLocals := 10, code := code, exceptionTable := #[], attributes := #[] }
def k1m1 : Method := { name := "law", desc := "(IIIII)Z", sig := { parameters := [.int, .int, .int, .int, .int], returnType := some .boolean }, accessFlags := 9, code := some k1c1 }
/-- com/example/puncta/puncta/kinetics/ResponseRisesPinLaw -/
def k1 : Class := { plain "com/example/puncta/puncta/kinetics/ResponseRisesPinLaw" (some 0) with
  accessFlags := 49
  interfaces := #[]
  cf := some (fileOf pool1 20 #[] #[{ accessFlags := 1, nameIndex := 5, descriptorIndex := 6, attributes := #[] }, { accessFlags := 9, nameIndex := 24, descriptorIndex := 25, attributes := #[] }] 49 2 #[] #[])
  fields := #[]
  methods := #[k1m0, k1m1]
  instanceTypes := #[]
  staticTypes := #[]
  resolved := Array.replicate 29 none
  statics := none }

def pool2 : Array CpInfo := pool [(1, .methodref 2 3), (0, .class_ 4), (0, .nameAndType 5 6), (0, u "java/lang/Object"), (0, u "<init>"), (0, u "()V"), (0, .fieldref 8 9), (0, .class_ 10), (0, .nameAndType 11 12), (0, u "com/example/puncta/puncta/kinetics/Response"), (0, u "stimulationFrame"), (0, u "I"), (0, .fieldref 8 14), (0, .nameAndType 15 12), (0, u "lastFrame"), (0, .fieldref 8 17), (0, .nameAndType 18 12), (0, u "peakFrame"), (0, .fieldref 8 20), (0, .nameAndType 21 22), (0, u "rise"), (0, u "D"), (0, .fieldref 8 24), (0, .nameAndType 25 22), (0, u "increase"), (0, u "(IIIDD)V"), (4, u "rises"), (0, u "()Z")] 3

def k2c0 : Code := { maxStack := 3, maxLocals := 8, code := prog_17_method_1_code, exceptionTable := #[], attributes := #[] }
def k2m0 : Method := { name := "<init>", desc := "(IIIDD)V", sig := { parameters := [.int, .int, .int, .double, .double], returnType := none }, accessFlags := 0, code := some k2c0 }
def k2c1 : Code := { maxStack := 4, maxLocals := 1, code := prog_17_method_7_code, exceptionTable := #[], attributes := #[] }
def k2m1 : Method := { name := "rises", desc := "()Z", sig := { parameters := [], returnType := some .boolean }, accessFlags := 1, code := some k2c1 }
/-- com/example/puncta/puncta/kinetics/Response -/
def k2 : Class := { plain "com/example/puncta/puncta/kinetics/Response" (some 0) with
  accessFlags := 49
  interfaces := #[]
  cf := some (fileOf pool2 8 #[] #[{ accessFlags := 0, nameIndex := 5, descriptorIndex := 26, attributes := #[] }, { accessFlags := 1, nameIndex := 31, descriptorIndex := 32, attributes := #[] }] 49 2 #[] #[{ accessFlags := 18, nameIndex := 11, descriptorIndex := 12, attributes := #[] }, { accessFlags := 18, nameIndex := 15, descriptorIndex := 12, attributes := #[] }, { accessFlags := 18, nameIndex := 18, descriptorIndex := 12, attributes := #[] }, { accessFlags := 18, nameIndex := 21, descriptorIndex := 22, attributes := #[] }, { accessFlags := 18, nameIndex := 25, descriptorIndex := 22, attributes := #[] }])
  fields := #[{ name := "stimulationFrame", type := .int, accessFlags := 18, slot := 0, constantValue := 0 }, { name := "lastFrame", type := .int, accessFlags := 18, slot := 1, constantValue := 0 }, { name := "peakFrame", type := .int, accessFlags := 18, slot := 2, constantValue := 0 }, { name := "rise", type := .double, accessFlags := 18, slot := 3, constantValue := 0 }, { name := "increase", type := .double, accessFlags := 18, slot := 4, constantValue := 0 }]
  methods := #[k2m0, k2m1]
  instanceTypes := #[.int, .int, .int, .double, .double]
  staticTypes := #[]
  resolved := Array.replicate 36 none
  statics := none }

def pool3 : Array CpInfo := pool [(1, u "java/lang/Cloneable"), (0, .class_ 1), (0, u "java/lang/Object"), (0, .class_ 3)] 3

/-- java/lang/Cloneable -/
def k3 : Class := { plain "java/lang/Cloneable" (some 0) with
  accessFlags := 1537
  interfaces := #[]
  cf := some (fileOf pool3 2 #[] #[] 1537 4 #[] #[])
  fields := #[]
  methods := #[]
  instanceTypes := #[]
  staticTypes := #[]
  resolved := Array.replicate 8 none
  statics := none }

def pool4 : Array CpInfo := pool [(1, u "java/io/Serializable"), (0, .class_ 1), (0, u "java/lang/Object"), (0, .class_ 3)] 3

/-- java/io/Serializable -/
def k4 : Class := { plain "java/io/Serializable" (some 0) with
  accessFlags := 1537
  interfaces := #[]
  cf := some (fileOf pool4 2 #[] #[] 1537 4 #[] #[])
  fields := #[]
  methods := #[]
  instanceTypes := #[]
  staticTypes := #[]
  resolved := Array.replicate 8 none
  statics := none }

/-- the primitive byte -/
def k5 : Class := { plain "byte" none with kind := .primitive 'B', accessFlags := 0x411 }
/-- [B -/
def k6 : Class := { plain "[B" (some 0) with kind := .array 5 .byte, interfaces := #[3, 4], accessFlags := 1041 }

/-- the primitive int -/
def k7 : Class := { plain "int" none with kind := .primitive 'I', accessFlags := 0x411 }
/-- [I -/
def k8 : Class := { plain "[I" (some 0) with kind := .array 7 .int, interfaces := #[3, 4], accessFlags := 1041 }

def heap : Heap := #[]
def classes : Array Class := #[k0, k1, k2, k3, k4, k5, k6, k7, k8]
def interned : List (Array UInt16 × Addr) := []
def slotsUsed : Nat := 0
def theMethod : MethodId := ⟨1, 1⟩
def args0 : Array Value := #[.int 5, .int 7, .int 9, .int 3, .int 1]
def aboutOver (below : List Frame) : State where
  vm := { classes := classes, interned := interned.toArray }
  heap := heap
  slotsUsed := slotsUsed
  threads := #[{ frames := .invoking theMethod args0 :: below }]
def below0 : List Frame := [.native { method := ⟨0, 0⟩, args := #[] }]
def about1 : State := aboutOver below0
def p0 : Program := .bare "" "" ""
def e0 : Env := launch0.env 0 0 0
theorem w_frames : about1.frames = Frame.invoking theMethod args0 :: below0 := rfl
set_option maxRecDepth 65536 in
theorem w_args : argsFit about1.vm theMethod args0 = true := by decide +kernel
set_option maxRecDepth 65536 in
theorem w_heap : heapFits about1 = true := by decide +kernel
set_option maxRecDepth 65536 in
theorem w_runnable : about1.curStatus? = some .runnable := by decide +kernel
set_option maxRecDepth 65536 in
theorem w_alone : about1.alone = true := by decide +kernel
set_option maxRecDepth 65536 in
theorem w_named : about1.methodNamed? x = some theMethod := by decide +kernel
set_option maxRecDepth 65536 in
theorem w_hears : about1.hears theMethod below0 = true := by decide +kernel
set_option maxRecDepth 65536 in
theorem w_ripe : about1.ripe theMethod args0 below0 = true := by decide +kernel
theorem w_running : about1.status = .running := rfl
set_option maxRecDepth 65536 in
theorem w_room : about1.hasRoom e0.platform room_1 = true :=
  launch0.hasRoom_least _ room_1 (by decide +kernel) (by decide +kernel) (by decide +kernel) (by decide +kernel) (by decide +kernel) (by decide +kernel)
theorem allAtoms_all (ts : List Jvm.Cond) (a : Array Jvm.Value) (st : Jvm.State) : (allAtoms ts).before a st = ts.all (fun c => c.before a st) := by
  induction ts with
  | nil => rfl
  | cons c t ih =>
    show (Jvm.Cond.and c (allAtoms t)).before a st = _
    rw [Jvm.Cond.before_and, ih, List.all_cons]
def words1 : List Jvm.Cond := Jvm.Cond.code x code maxLocals ret :: tables_1
/-- a 'code' word, met by the world's own term for the bytes: nothing is compared byte by byte -/
theorem code_word {y : MethodName} {bytes : ByteArray} {mx : Nat} {rt : Option FieldType} {a : Array Value} {s : State} {m : MethodId} {meth : Method} {c : Code} (h1 : s.methodNamed? y = some m) (h2 : s.vm.method? m = some meth) (h3 : meth.code = some c) (h4 : c.code = bytes)
    (h5 : (c.maxLocals == mx && c.exceptionTable.isEmpty && decide (c.maxStack ≤ mostOperands) && decide (meth.sig.returnType = rt) && !meth.locks && decide (parseMethodDescriptor y.desc = some meth.sig)) = true) : (Jvm.Cond.code y bytes mx rt).before a s = true := by
  simp only [Bool.and_eq_true, beq_iff_eq, Bool.not_eq_true', decide_eq_true_eq] at h5
  obtain ⟨⟨⟨⟨⟨g1, g2⟩, g3⟩, g4⟩, g5⟩, g6⟩ := h5
  simp [Cond.before, Cond.holds, Cond.value, h1, h2, h3, h4, g1, g2, g3, g4, g5, g6]
def isCode : Jvm.Cond → Bool
  | .code _ _ _ _ => true
  | _ => false
theorem all_split {L : List Jvm.Cond} {P : Jvm.Cond → Bool} (h1 : L.all (fun c => isCode c || P c) = true) (h2 : ∀ c ∈ L.filter isCode, P c = true) : L.all P = true := by
  refine List.all_eq_true.mpr fun c hc => ?_
  have h := List.all_eq_true.mp h1 c hc
  rcases Bool.eq_false_or_eq_true (isCode c) with hi | hi
  · exact h2 c (List.mem_filter.mpr ⟨hc, hi⟩)
  · simpa [hi] using h
set_option maxRecDepth 65536 in
theorem w_c0 : (Jvm.Cond.code x code maxLocals ret).before args0 about1 = true := code_word (m := ⟨1, 1⟩) (meth := k1m1) (c := k1c1) (by decide +kernel) rfl rfl rfl (by decide +kernel)
set_option maxRecDepth 65536 in
theorem w_c1 : (Jvm.Cond.code ({ cls := "com/example/puncta/puncta/kinetics/Response", name := "<init>", desc := "(IIIDD)V" } : Jvm.MethodName) prog_17_method_1_code (8 : Nat) (Option.none : Option Jvm.ClassFile.FieldType)).before args0 about1 = true := code_word (m := ⟨2, 0⟩) (meth := k2m0) (c := k2c0) (by decide +kernel) rfl rfl rfl (by decide +kernel)
set_option maxRecDepth 65536 in
theorem w_c2 : (Jvm.Cond.code ({ cls := "java/lang/Object", name := "<init>", desc := "()V" } : Jvm.MethodName) object_method_1_code (1 : Nat) (Option.none : Option Jvm.ClassFile.FieldType)).before args0 about1 = true := code_word (m := ⟨0, 0⟩) (meth := k0m0) (c := k0c0) (by decide +kernel) rfl rfl rfl (by decide +kernel)
set_option maxRecDepth 65536 in
theorem w_c3 : (Jvm.Cond.code ({ cls := "com/example/puncta/puncta/kinetics/Response", name := "rises", desc := "()Z" } : Jvm.MethodName) prog_17_method_7_code (1 : Nat) (Option.some Jvm.ClassFile.FieldType.boolean)).before args0 about1 = true := code_word (m := ⟨2, 1⟩) (meth := k2m1) (c := k2c1) (by decide +kernel) rfl rfl rfl (by decide +kernel)
def codes1 : List Jvm.Cond := [Jvm.Cond.code x code maxLocals ret, Jvm.Cond.code ({ cls := "com/example/puncta/puncta/kinetics/Response", name := "<init>", desc := "(IIIDD)V" } : Jvm.MethodName) prog_17_method_1_code (8 : Nat) (Option.none : Option Jvm.ClassFile.FieldType), Jvm.Cond.code ({ cls := "java/lang/Object", name := "<init>", desc := "()V" } : Jvm.MethodName) object_method_1_code (1 : Nat) (Option.none : Option Jvm.ClassFile.FieldType), Jvm.Cond.code ({ cls := "com/example/puncta/puncta/kinetics/Response", name := "rises", desc := "()Z" } : Jvm.MethodName) prog_17_method_7_code (1 : Nat) (Option.some Jvm.ClassFile.FieldType.boolean)]
set_option maxRecDepth 65536 in
theorem codes_eq : words1.filter isCode = codes1 := rfl
theorem w_codes : ∀ c ∈ words1.filter isCode, c.before args0 about1 = true := by
  rw [codes_eq]
  intro c hc
  simp only [codes1, List.mem_cons, List.not_mem_nil, or_false] at hc
  rcases hc with rfl | rfl | rfl | rfl
  · exact w_c0
  · exact w_c1
  · exact w_c2
  · exact w_c3
set_option maxRecDepth 65536 in
theorem w_t1 : (words1.take 24).all (fun c => isCode c || c.before args0 about1) = true := by decide +kernel
set_option maxRecDepth 65536 in
theorem w_t2 : (words1.drop 24).all (fun c => isCode c || c.before args0 about1) = true := by decide +kernel
theorem w_tables : (allAtoms (Jvm.Cond.code x code maxLocals ret :: tables_1)).before args0 about1 = true := by
  rw [allAtoms_all]
  show words1.all (fun c => c.before args0 about1) = true
  refine all_split ?_ w_codes
  rw [← List.take_append_drop 24 words1, List.all_append, w_t1, w_t2]
  rfl
set_option maxRecDepth 65536 in
theorem w_case : (Jvm.Cond.and given_1 narrow_1).before args0 about1 = true := by decide +kernel
theorem w_applies : (headSpec (Jvm.Cond.code x code maxLocals ret :: tables_1) room_1).applies x e0.platform about1 = true :=
  (Spec.applies_iff w_frames).mpr ⟨w_running, w_runnable, w_alone, w_named, w_hears, w_ripe, w_room, w_tables⟩
theorem atStart : AtStart classFile x code maxLocals ret World_1 tables_1 room_1 Calls_1 rest_1 Pre_1 launch0 p0 e0 about1 theMethod args0 below0 :=
  ⟨lists_1, trivial, launch0.admits_env _ _ _, launch0.least_env, fairChoices_fair.cas, fairChoices_fair.clock, w_frames, w_args, w_heap, w_applies, trivial, trivial, w_case⟩
end start1
theorem witness_1 : WitnessClaimed_1 := ⟨start1.p0, start1.e0, start1.about1, start1.theMethod, start1.args0, start1.below0, start1.atStart⟩
end Jvm.Pilot.@@N@@
