import JvmDerived
import JvmDerived.Pilot.@@N@@Statement
import JvmDerived.Pilot.@@N@@Code
set_option linter.unusedVariables false
set_option linter.unusedSimpArgs false
namespace Jvm.RoadKit
open Sem ClassFile Op Lib Jvm.Stand Jvm.Free Jvm.LawKit
section New
variable {p : Program} {l : Launch} {e : Env} {R : Room} {s : State} {m : MethodId} {args : Array Value} {below : List Frame} {meth : Method} {c : Code} {T : State} {locs : List Loc} {cells slots : Nat}
theorem retI (X : Stand p l e R s m args below meth c T locs cells slots) (hx : p.tables.exec = Jvm.exec) {pc : Nat} {Ls : Array Slot} {z : Int32} {rest : List Value} (hret : meth.sig.returnType = some .int) (hd : decode c.code pc = .ok (.ireturn, 1)) {fs : List Frame}
    (hl : ∀ (f : JFrame) (acts : List Action), f.method = m → f.locked = none → f.entered = [] → (doReturn e (T.setTop f) acts (some (.int z))).1 = T.setFrames fs) : Steps p.tables e below (T.setTop (mkF m pc Ls (.int z :: rest))) (T.setFrames fs) := by
  have hm' : T.vm.method? m = some meth := X.method'
  have hn : narrow .int (.int z) = .int z := rfl
  show Steps p.tables e below (T.setTop { method := m, pc := pc, locals := Ls, stack := _ :: rest, locked := none }) _
  jvm_step X.here [X.here.top, hx, hd, hm', hret, hn]
  first | (intro acts; rw [hl _ acts rfl rfl rfl]) | rw [hl _ _ rfl rfl rfl]
  exact Steps.refl _
end New
end Jvm.RoadKit
namespace Jvm.Pilot.@@N@@
open Jvm Jvm.ClassFile Sem Op Lib Jvm.Free Jvm.Stand Jvm.LawKit Jvm.RoadKit Bundle Jvm.Pilot.@@N@@.Jvm.D
section Own
variable {p : Program} {l : Launch} {e : Env} {R : Room} {s : State} {m : MethodId} {args : Array Value} {below : List Frame} {meth : Method} {c : Code} {T : State} {Z : State} {h : Heap} {n0 kc ks cells slots ml pc pc' pt : Nat} {Q : Option Value → Heap → Prop} {bc : ByteArray} {y : MethodName} {rt : Option FieldType} {L L' : Array Slot} {S : List Value} {a0 : Array Value}
def oG (p : Program) (e : Env) (below : List Frame) (s : State) (n0 kc ks : Nat) (Q : Option Value → Heap → Prop) (U : State) : Prop :=
  ∃ s₂ o, Steps p.tables e below U s₂ ∧ s₂.status = .running ∧ Ended s₂ below o ∧ ∃ v L, o = .returned v ∧ (Q v s₂.heap ∧ Fr n0 L) ∧ FrameEnd s o s₂ L kc ks
def oH (p : Program) (l : Launch) (e : Env) (R : Room) (s : State) (m : MethodId) (args : Array Value) (below : List Frame) (meth : Method) (c : Code) (bc : ByteArray) (ml : Nat) (y : MethodName) (rt : Option FieldType) (Z : State) (n0 : Nat) (T : State) (h : Heap) (cells slots : Nat) : Prop :=
  ∃ locs, Stand p l e R s m args below meth c T locs cells slots ∧ T.heap = h ∧ Fr n0 locs ∧ p.tables.exec = Jvm.exec ∧ c.code = bc ∧ c.maxLocals = ml ∧ Z.Warmed39 s.vm ∧ s.vm.findClass y.cls = some m.cls ∧ meth.name = y.name ∧ meth.sig.returnType = rt ∧ meth.locks = false ∧ n0 ≤ s.heap.size
theorem oG.go {U U' : State} (f : ∀ t, Steps p.tables e below U' t → Steps p.tables e below U t) (k : oG p e below s n0 kc ks Q U') : oG p e below s n0 kc ks Q U := by
  obtain ⟨s2, o, h1, r⟩ := k
  exact ⟨s2, o, f _ h1, r⟩
theorem oG.mono {U : State} {Q' : Option Value → Heap → Prop} (k : oG p e below s n0 kc ks Q' U) (f : ∀ v h, Q' v h → Q v h) : oG p e below s n0 kc ks Q U := by
  obtain ⟨s2, o, h1, h2, h3, v, L, h4, ⟨h5, h6⟩, h7⟩ := k
  exact ⟨s2, o, h1, h2, h3, v, L, h4, ⟨f _ _ h5, h6⟩, h7⟩
theorem oH.le (H : oH p l e R s m args below meth c bc ml y rt Z n0 T h cells slots) : n0 ≤ h.size := by
  obtain ⟨locs, X, eT, N, -, -, -, -, -, -, -, -, hn⟩ := H
  have q : s.heap.size ≤ T.heap.size := X.same.2.1
  rw [← eT]; exact Nat.le_trans hn q
theorem oH.more {cells' slots' : Nat} (H : oH p l e R s m args below meth c bc ml y rt Z n0 T h cells slots) (hc : cells ≤ cells') (hs : slots ≤ slots') : oH p l e R s m args below meth c bc ml y rt Z n0 T h cells' slots' := by
  obtain ⟨locs, X, r⟩ := H
  exact ⟨locs, X.more hc hs, r⟩
/-- a method's contract: called with these arguments at the heap h0 it comes back with Q, within the room -/
def oC (l : Launch) (Z : State) (n0 : Nat) (y : MethodName) (bc : ByteArray) (ml : Nat) (rt : Option FieldType) (rm : Room) (kc ks : Nat) (as' : Array Value) (h0 : Heap) (Q : Option Value → Heap → Prop) : Prop :=
  ∀ ws : List Jvm.Cond, MetFree l y (head1 (Jvm.Cond.code y bc ml rt :: ws) rm) (fun a U => a = as' ∧ Z.Warmed39 U.vm ∧ U.heap = h0) (fun _ _ _ _ _ => True) (fun _ U o U' => ∃ v L, o = .returned v ∧ (Q v U'.heap ∧ Fr n0 L) ∧ FrameEnd U o U' L kc ks)
theorem oC.of {rm : Room} {as' : Array Value} {h0 : Heap} (hpl : plainFor y = true) (hn : n0 ≤ h0.size) (hef : ∀ m, entryFrame m as' ml = mkF m 0 L [])
    (body : ∀ (p : Program) (e : Env) (s : State) (m : MethodId) (below : List Frame) (meth : Method) (c : Code) (T : State), oH p l e rm s m as' below meth c bc ml y rt Z n0 T h0 0 0 → oG p e below s n0 kc ks Q (T.setTop (mkF m 0 L []))) : oC l Z n0 y bc ml rt rm kc ks as' h0 Q := by
  intro ws
  refine MetFree.of_bodySF hpl hisR ?_
  intro p e s m args below meth c s₁ Bd hml0 hP hK
  obtain ⟨rfl, hZ, hh⟩ := hP
  have X0 : Stand p l e rm s m args below meth c s₁ [] 0 0 := Stand.of_body Bd
  have e0 : s₁.heap = h0 := by rw [← hh, Bd.state]; rfl
  have k := body p e s m below meth c s₁ ⟨[], X0, e0, Fr.nil n0, Bd.exec, Bd.bytes, hml0, hZ, findClass_of_methodNamed Bd.named, (name_of_methodNamed Bd.named Bd.method).1, Bd.returns, Bd.notSynchronized, by rw [hh]; exact hn⟩
  rw [hef m]; exact k
theorem oC.mono {rm : Room} {as' : Array Value} {h0 : Heap} {Q' : Option Value → Heap → Prop} (k : oC l Z n0 y bc ml rt rm kc ks as' h0 Q') (f : ∀ v h, Q' v h → Q v h) : oC l Z n0 y bc ml rt rm kc ks as' h0 Q := by
  intro ws p e h1 h2 h3 s m args below h4 h5 h6 h7
  obtain ⟨n, o, a1, a2, a3, v, L, a4, ⟨a5, a6⟩, a7⟩ := k ws p e h1 h2 h3 s m args below h4 h5 h6 h7
  exact ⟨n, o, a1, a2, a3, v, L, a4, ⟨f _ _ a5, a6⟩, a7⟩
theorem o_aloadN (H : oH p l e R s m args below meth c bc ml y rt Z n0 T h cells slots) {k : Fin 4} {v : Value} (hl : L[k.val]? = some (.val v)) (hv : v.isRef = true) (hd : decode bc pc = .ok (.aload_n k, 1)) (hp : pc + 1 = pc') (k : oG p e below s n0 kc ks Q (T.setTop (mkF m pc' L (v :: S)))) : oG p e below s n0 kc ks Q (T.setTop (mkF m pc L S)) := by
  obtain ⟨locs, X, eT, N, hx, hby, hml, hZ, hown, hnm, hret, hlk, hn⟩ := H
  subst hp
  exact oG.go (fun t hr => XS.aloadN X.here hx rfl (hb hby hd) hl hv hr) k
theorem o_iloadN (H : oH p l e R s m args below meth c bc ml y rt Z n0 T h cells slots) {k : Fin 4} {v : Int32} (hl : L[k.val]? = some (.val (.int v))) (hd : decode bc pc = .ok (.iload_n k, 1)) (hp : pc + 1 = pc') (k : oG p e below s n0 kc ks Q (T.setTop (mkF m pc' L (.int v :: S)))) : oG p e below s n0 kc ks Q (T.setTop (mkF m pc L S)) := by
  obtain ⟨locs, X, eT, N, hx, hby, hml, hZ, hown, hnm, hret, hlk, hn⟩ := H
  subst hp
  exact oG.go (fun t hr => XS.iloadN X.here hx rfl (hb hby hd) hl hr) k
theorem o_lloadN (H : oH p l e R s m args below meth c bc ml y rt Z n0 T h cells slots) {k : Fin 4} {v : Int64} (hl : L[k.val]? = some (.val (.long v))) (hd : decode bc pc = .ok (.lload_n k, 1)) (hp : pc + 1 = pc') (k : oG p e below s n0 kc ks Q (T.setTop (mkF m pc' L (.long v :: S)))) : oG p e below s n0 kc ks Q (T.setTop (mkF m pc L S)) := by
  obtain ⟨locs, X, eT, N, hx, hby, hml, hZ, hown, hnm, hret, hlk, hn⟩ := H
  subst hp
  exact oG.go (fun t hr => XT.lloadN X.here hx rfl (hb hby hd) hl hr) k
theorem o_astoreN (H : oH p l e R s m args below meth c bc ml y rt Z n0 T h cells slots) {k : Fin 4} {v : Value} (hl : storeLocals L k.val v = some L') (hv : v.isRef = true) (hd : decode bc pc = .ok (.astore_n k, 1)) (hp : pc + 1 = pc') (k : oG p e below s n0 kc ks Q (T.setTop (mkF m pc' L' S))) : oG p e below s n0 kc ks Q (T.setTop (mkF m pc L (v :: S))) := by
  obtain ⟨locs, X, eT, N, hx, hby, hml, hZ, hown, hnm, hret, hlk, hn⟩ := H
  subst hp
  exact oG.go (fun t hr => XS.astoreN X.here hx rfl (hb hby hd) rfl hv hl hr) k
theorem o_istoreN (H : oH p l e R s m args below meth c bc ml y rt Z n0 T h cells slots) {k : Fin 4} {v : Int32} (hl : storeLocals L k.val (.int v) = some L') (hd : decode bc pc = .ok (.istore_n k, 1)) (hp : pc + 1 = pc') (k : oG p e below s n0 kc ks Q (T.setTop (mkF m pc' L' S))) : oG p e below s n0 kc ks Q (T.setTop (mkF m pc L (.int v :: S))) := by
  obtain ⟨locs, X, eT, N, hx, hby, hml, hZ, hown, hnm, hret, hlk, hn⟩ := H
  subst hp
  exact oG.go (fun t hr => XS.istoreN X.here hx rfl (hb hby hd) rfl hl hr) k
theorem o_lstoreN (H : oH p l e R s m args below meth c bc ml y rt Z n0 T h cells slots) {k : Fin 4} {v : Int64} (hl : storeLocals L k.val (.long v) = some L') (hd : decode bc pc = .ok (.lstore_n k, 1)) (hp : pc + 1 = pc') (k : oG p e below s n0 kc ks Q (T.setTop (mkF m pc' L' S))) : oG p e below s n0 kc ks Q (T.setTop (mkF m pc L (.long v :: S))) := by
  obtain ⟨locs, X, eT, N, hx, hby, hml, hZ, hown, hnm, hret, hlk, hn⟩ := H
  subst hp
  exact oG.go (fun t hr => XT.lstoreN X.here hx rfl (hb hby hd) rfl hl hr) k
theorem o_aload (H : oH p l e R s m args below meth c bc ml y rt Z n0 T h cells slots) {k : Nat} {v : Value} (hl : L[k]? = some (.val v)) (hv : v.isRef = true) (hd : decode bc pc = .ok (.aload k, 2)) (hp : pc + 2 = pc') (k : oG p e below s n0 kc ks Q (T.setTop (mkF m pc' L (v :: S)))) : oG p e below s n0 kc ks Q (T.setTop (mkF m pc L S)) := by
  obtain ⟨locs, X, eT, N, hx, hby, hml, hZ, hown, hnm, hret, hlk, hn⟩ := H
  subst hp
  exact oG.go (fun t hr => XS.aload X.here hx rfl (hb hby hd) hl hv hr) k
theorem o_iload (H : oH p l e R s m args below meth c bc ml y rt Z n0 T h cells slots) {k : Nat} {v : Int32} (hl : L[k]? = some (.val (.int v))) (hd : decode bc pc = .ok (.iload k, 2)) (hp : pc + 2 = pc') (k : oG p e below s n0 kc ks Q (T.setTop (mkF m pc' L (.int v :: S)))) : oG p e below s n0 kc ks Q (T.setTop (mkF m pc L S)) := by
  obtain ⟨locs, X, eT, N, hx, hby, hml, hZ, hown, hnm, hret, hlk, hn⟩ := H
  subst hp
  exact oG.go (fun t hr => XS.iload X.here hx rfl (hb hby hd) hl hr) k
theorem o_lload (H : oH p l e R s m args below meth c bc ml y rt Z n0 T h cells slots) {k : Nat} {v : Int64} (hl : L[k]? = some (.val (.long v))) (hd : decode bc pc = .ok (.lload k, 2)) (hp : pc + 2 = pc') (k : oG p e below s n0 kc ks Q (T.setTop (mkF m pc' L (.long v :: S)))) : oG p e below s n0 kc ks Q (T.setTop (mkF m pc L S)) := by
  obtain ⟨locs, X, eT, N, hx, hby, hml, hZ, hown, hnm, hret, hlk, hn⟩ := H
  subst hp
  exact oG.go (fun t hr => XT.lload X.here hx rfl (hb hby hd) hl hr) k
theorem o_astore (H : oH p l e R s m args below meth c bc ml y rt Z n0 T h cells slots) {k : Nat} {v : Value} (hl : storeLocals L k v = some L') (hv : v.isRef = true) (hd : decode bc pc = .ok (.astore k, 2)) (hp : pc + 2 = pc') (k : oG p e below s n0 kc ks Q (T.setTop (mkF m pc' L' S))) : oG p e below s n0 kc ks Q (T.setTop (mkF m pc L (v :: S))) := by
  obtain ⟨locs, X, eT, N, hx, hby, hml, hZ, hown, hnm, hret, hlk, hn⟩ := H
  subst hp
  exact oG.go (fun t hr => XS.astore X.here hx rfl (hb hby hd) rfl hv hl hr) k
theorem o_istore (H : oH p l e R s m args below meth c bc ml y rt Z n0 T h cells slots) {k : Nat} {v : Int32} (hl : storeLocals L k (.int v) = some L') (hd : decode bc pc = .ok (.istore k, 2)) (hp : pc + 2 = pc') (k : oG p e below s n0 kc ks Q (T.setTop (mkF m pc' L' S))) : oG p e below s n0 kc ks Q (T.setTop (mkF m pc L (.int v :: S))) := by
  obtain ⟨locs, X, eT, N, hx, hby, hml, hZ, hown, hnm, hret, hlk, hn⟩ := H
  subst hp
  exact oG.go (fun t hr => XS.istore X.here hx rfl (hb hby hd) rfl hl hr) k
theorem o_lstore (H : oH p l e R s m args below meth c bc ml y rt Z n0 T h cells slots) {k : Nat} {v : Int64} (hl : storeLocals L k (.long v) = some L') (hd : decode bc pc = .ok (.lstore k, 2)) (hp : pc + 2 = pc') (k : oG p e below s n0 kc ks Q (T.setTop (mkF m pc' L' S))) : oG p e below s n0 kc ks Q (T.setTop (mkF m pc L (.long v :: S))) := by
  obtain ⟨locs, X, eT, N, hx, hby, hml, hZ, hown, hnm, hret, hlk, hn⟩ := H
  subst hp
  exact oG.go (fun t hr => XT.lstore X.here hx rfl (hb hby hd) rfl hl hr) k
theorem o_dloadN (H : oH p l e R s m args below meth c bc ml y rt Z n0 T h cells slots) {k : Fin 4} {v : UInt64} (hl : L[k.val]? = some (.val (.double v))) (hd : decode bc pc = .ok (.dload_n k, 1)) (hp : pc + 1 = pc') (k : oG p e below s n0 kc ks Q (T.setTop (mkF m pc' L (.double v :: S)))) : oG p e below s n0 kc ks Q (T.setTop (mkF m pc L S)) := by
  obtain ⟨locs, X, eT, N, hx, hby, hml, hZ, hown, hnm, hret, hlk, hn⟩ := H
  subst hp
  exact oG.go (fun t hr => XS.dloadN X.here hx rfl (hb hby hd) hl hr) k
theorem o_dstoreN (H : oH p l e R s m args below meth c bc ml y rt Z n0 T h cells slots) {k : Fin 4} {v : UInt64} (hl : storeLocals L k.val (.double v) = some L') (hd : decode bc pc = .ok (.dstore_n k, 1)) (hp : pc + 1 = pc') (k : oG p e below s n0 kc ks Q (T.setTop (mkF m pc' L' S))) : oG p e below s n0 kc ks Q (T.setTop (mkF m pc L (.double v :: S))) := by
  obtain ⟨locs, X, eT, N, hx, hby, hml, hZ, hown, hnm, hret, hlk, hn⟩ := H
  subst hp
  exact oG.go (fun t hr => XS.dstoreN X.here hx rfl (hb hby hd) rfl hl hr) k
theorem o_dload (H : oH p l e R s m args below meth c bc ml y rt Z n0 T h cells slots) {k : Nat} {v : UInt64} (hl : L[k]? = some (.val (.double v))) (hd : decode bc pc = .ok (.dload k, 2)) (hp : pc + 2 = pc') (k : oG p e below s n0 kc ks Q (T.setTop (mkF m pc' L (.double v :: S)))) : oG p e below s n0 kc ks Q (T.setTop (mkF m pc L S)) := by
  obtain ⟨locs, X, eT, N, hx, hby, hml, hZ, hown, hnm, hret, hlk, hn⟩ := H
  subst hp
  exact oG.go (fun t hr => XS.dload X.here hx rfl (hb hby hd) hl hr) k
theorem o_dstore (H : oH p l e R s m args below meth c bc ml y rt Z n0 T h cells slots) {k : Nat} {v : UInt64} (hl : storeLocals L k (.double v) = some L') (hd : decode bc pc = .ok (.dstore k, 2)) (hp : pc + 2 = pc') (k : oG p e below s n0 kc ks Q (T.setTop (mkF m pc' L' S))) : oG p e below s n0 kc ks Q (T.setTop (mkF m pc L (.double v :: S))) := by
  obtain ⟨locs, X, eT, N, hx, hby, hml, hZ, hown, hnm, hret, hlk, hn⟩ := H
  subst hp
  exact oG.go (fun t hr => XS.dstore X.here hx rfl (hb hby hd) rfl hl hr) k
theorem o_dconst0 (H : oH p l e R s m args below meth c bc ml y rt Z n0 T h cells slots)   (hd : decode bc pc = .ok (.dconst 0, 1)) (hp : pc + 1 = pc') (k : oG p e below s n0 kc ks Q (T.setTop (mkF m pc' L (.double 0 :: S)))) : oG p e below s n0 kc ks Q (T.setTop (mkF m pc L S)) := by
  obtain ⟨locs, X, eT, N, hx, hby, hml, hZ, hown, hnm, hret, hlk, hn⟩ := H
  subst hp
  exact oG.go (fun t hr => XS.dconst0 X.here hx rfl (hb hby hd) rfl hr) k
theorem o_i2d (H : oH p l e R s m args below meth c bc ml y rt Z n0 T h cells slots) {x : Int32}  (hd : decode bc pc = .ok (.i2d, 1)) (hp : pc + 1 = pc') (k : oG p e below s n0 kc ks Q (T.setTop (mkF m pc' L (.double (FP.i2d x) :: S)))) : oG p e below s n0 kc ks Q (T.setTop (mkF m pc L (.int x :: S))) := by
  obtain ⟨locs, X, eT, N, hx, hby, hml, hZ, hown, hnm, hret, hlk, hn⟩ := H
  subst hp
  exact oG.go (fun t hr => XS.i2dS X.here hx rfl (hb hby hd) rfl rfl hr) k
theorem o_ddiv (H : oH p l e R s m args below meth c bc ml y rt Z n0 T h cells slots) {x z : UInt64} (hnn : Jvm.Free.Fl.NoNaN64 (FP.ddiv x z)) (hd : decode bc pc = .ok (.ddiv, 1)) (hp : pc + 1 = pc') (k : oG p e below s n0 kc ks Q (T.setTop (mkF m pc' L (.double (FP.ddiv x z) :: S)))) : oG p e below s n0 kc ks Q (T.setTop (mkF m pc L (.double z :: .double x :: S))) := by
  obtain ⟨locs, X, eT, N, hx, hby, hml, hZ, hown, hnm, hret, hlk, hn⟩ := H
  subst hp
  exact oG.go (fun t hr => XS.ddivS X.here hx rfl (hb hby hd) rfl hnn rfl hr) k
theorem o_dcmpl (H : oH p l e R s m args below meth c bc ml y rt Z n0 T h cells slots) {x z : UInt64}  (hd : decode bc pc = .ok (.dcmp .l, 1)) (hp : pc + 1 = pc') (k : oG p e below s n0 kc ks Q (T.setTop (mkF m pc' L (.int (cmpValue (FP.dcmp x z) .l) :: S)))) : oG p e below s n0 kc ks Q (T.setTop (mkF m pc L (.double z :: .double x :: S))) := by
  obtain ⟨locs, X, eT, N, hx, hby, hml, hZ, hown, hnm, hret, hlk, hn⟩ := H
  subst hp
  exact oG.go (fun t hr => XS.dcmpS X.here hx rfl (hb hby hd) rfl rfl hr) k
theorem o_iconst (H : oH p l e R s m args below meth c bc ml y rt Z n0 T h cells slots) {i : Int} (v : Int32) (hv : Int32.ofInt i = v) (hd : decode bc pc = .ok (.iconst i, 1)) (hp : pc + 1 = pc') (k : oG p e below s n0 kc ks Q (T.setTop (mkF m pc' L (.int v :: S)))) : oG p e below s n0 kc ks Q (T.setTop (mkF m pc L S)) := by
  obtain ⟨locs, X, eT, N, hx, hby, hml, hZ, hown, hnm, hret, hlk, hn⟩ := H
  subst hp
  exact oG.go (fun t hr => XT.iconstV X.here hx rfl v (hb hby hd) hv hr) k
theorem o_bipush (H : oH p l e R s m args below meth c bc ml y rt Z n0 T h cells slots) {i : Int} (v : Int32) (hv : (Int8.ofInt i).toInt32 = v) (hd : decode bc pc = .ok (.bipush i, 2)) (hp : pc + 2 = pc') (k : oG p e below s n0 kc ks Q (T.setTop (mkF m pc' L (.int v :: S)))) : oG p e below s n0 kc ks Q (T.setTop (mkF m pc L S)) := by
  obtain ⟨locs, X, eT, N, hx, hby, hml, hZ, hown, hnm, hret, hlk, hn⟩ := H
  subst hp
  exact oG.go (fun t hr => XT.bipushV X.here hx rfl v (hb hby hd) hv hr) k
theorem o_sipush (H : oH p l e R s m args below meth c bc ml y rt Z n0 T h cells slots) {i : Int} (v : Int32) (hv : (Int16.ofInt i).toInt32 = v) (hd : decode bc pc = .ok (.sipush i, 3)) (hp : pc + 3 = pc') (k : oG p e below s n0 kc ks Q (T.setTop (mkF m pc' L (.int v :: S)))) : oG p e below s n0 kc ks Q (T.setTop (mkF m pc L S)) := by
  obtain ⟨locs, X, eT, N, hx, hby, hml, hZ, hown, hnm, hret, hlk, hn⟩ := H
  subst hp
  exact oG.go (fun t hr => XT.sipushV X.here hx rfl v (hb hby hd) hv hr) k
theorem o_lconst (H : oH p l e R s m args below meth c bc ml y rt Z n0 T h cells slots) {i : Fin 2} (v : Int64) (hv : Int64.ofNat i = v) (hd : decode bc pc = .ok (.lconst i, 1)) (hp : pc + 1 = pc') (k : oG p e below s n0 kc ks Q (T.setTop (mkF m pc' L (.long v :: S)))) : oG p e below s n0 kc ks Q (T.setTop (mkF m pc L S)) := by
  obtain ⟨locs, X, eT, N, hx, hby, hml, hZ, hown, hnm, hret, hlk, hn⟩ := H
  subst hp
  exact oG.go (fun t hr => XT.lconstV X.here hx rfl v (hb hby hd) hv hr) k
theorem o_aconst_null (H : oH p l e R s m args below meth c bc ml y rt Z n0 T h cells slots)   (hd : decode bc pc = .ok (.aconst_null, 1)) (hp : pc + 1 = pc') (k : oG p e below s n0 kc ks Q (T.setTop (mkF m pc' L (.null :: S)))) : oG p e below s n0 kc ks Q (T.setTop (mkF m pc L S)) := by
  obtain ⟨locs, X, eT, N, hx, hby, hml, hZ, hown, hnm, hret, hlk, hn⟩ := H
  subst hp
  exact oG.go (fun t hr => XS.aconstNull X.here hx rfl (hb hby hd) hr) k
theorem o_iadd (H : oH p l e R s m args below meth c bc ml y rt Z n0 T h cells slots) {x z : Int32}  (hd : decode bc pc = .ok (.iadd, 1)) (hp : pc + 1 = pc') (k : oG p e below s n0 kc ks Q (T.setTop (mkF m pc' L (.int (x + z) :: S)))) : oG p e below s n0 kc ks Q (T.setTop (mkF m pc L (.int z :: .int x :: S))) := by
  obtain ⟨locs, X, eT, N, hx, hby, hml, hZ, hown, hnm, hret, hlk, hn⟩ := H
  subst hp
  exact oG.go (fun t hr => XS.iadd X.here hx rfl (hb hby hd) rfl hr) k
theorem o_isub (H : oH p l e R s m args below meth c bc ml y rt Z n0 T h cells slots) {x z : Int32}  (hd : decode bc pc = .ok (.isub, 1)) (hp : pc + 1 = pc') (k : oG p e below s n0 kc ks Q (T.setTop (mkF m pc' L (.int (x - z) :: S)))) : oG p e below s n0 kc ks Q (T.setTop (mkF m pc L (.int z :: .int x :: S))) := by
  obtain ⟨locs, X, eT, N, hx, hby, hml, hZ, hown, hnm, hret, hlk, hn⟩ := H
  subst hp
  exact oG.go (fun t hr => XS.isub X.here hx rfl (hb hby hd) rfl hr) k
theorem o_imul (H : oH p l e R s m args below meth c bc ml y rt Z n0 T h cells slots) {x z : Int32}  (hd : decode bc pc = .ok (.imul, 1)) (hp : pc + 1 = pc') (k : oG p e below s n0 kc ks Q (T.setTop (mkF m pc' L (.int (x * z) :: S)))) : oG p e below s n0 kc ks Q (T.setTop (mkF m pc L (.int z :: .int x :: S))) := by
  obtain ⟨locs, X, eT, N, hx, hby, hml, hZ, hown, hnm, hret, hlk, hn⟩ := H
  subst hp
  exact oG.go (fun t hr => XS.imul X.here hx rfl (hb hby hd) rfl hr) k
theorem o_iand (H : oH p l e R s m args below meth c bc ml y rt Z n0 T h cells slots) {x z : Int32}  (hd : decode bc pc = .ok (.iand, 1)) (hp : pc + 1 = pc') (k : oG p e below s n0 kc ks Q (T.setTop (mkF m pc' L (.int (x &&& z) :: S)))) : oG p e below s n0 kc ks Q (T.setTop (mkF m pc L (.int z :: .int x :: S))) := by
  obtain ⟨locs, X, eT, N, hx, hby, hml, hZ, hown, hnm, hret, hlk, hn⟩ := H
  subst hp
  exact oG.go (fun t hr => XS.iand X.here hx rfl (hb hby hd) rfl hr) k
theorem o_ior (H : oH p l e R s m args below meth c bc ml y rt Z n0 T h cells slots) {x z : Int32}  (hd : decode bc pc = .ok (.ior, 1)) (hp : pc + 1 = pc') (k : oG p e below s n0 kc ks Q (T.setTop (mkF m pc' L (.int (x ||| z) :: S)))) : oG p e below s n0 kc ks Q (T.setTop (mkF m pc L (.int z :: .int x :: S))) := by
  obtain ⟨locs, X, eT, N, hx, hby, hml, hZ, hown, hnm, hret, hlk, hn⟩ := H
  subst hp
  exact oG.go (fun t hr => XT.ior X.here hx rfl (hb hby hd) rfl hr) k
theorem o_ixor (H : oH p l e R s m args below meth c bc ml y rt Z n0 T h cells slots) {x z : Int32}  (hd : decode bc pc = .ok (.ixor, 1)) (hp : pc + 1 = pc') (k : oG p e below s n0 kc ks Q (T.setTop (mkF m pc' L (.int (x ^^^ z) :: S)))) : oG p e below s n0 kc ks Q (T.setTop (mkF m pc L (.int z :: .int x :: S))) := by
  obtain ⟨locs, X, eT, N, hx, hby, hml, hZ, hown, hnm, hret, hlk, hn⟩ := H
  subst hp
  exact oG.go (fun t hr => XT.ixor X.here hx rfl (hb hby hd) rfl hr) k
theorem o_ishl (H : oH p l e R s m args below meth c bc ml y rt Z n0 T h cells slots) {x z : Int32}  (hd : decode bc pc = .ok (.ishl, 1)) (hp : pc + 1 = pc') (k : oG p e below s n0 kc ks Q (T.setTop (mkF m pc' L (.int (x <<< (z &&& 31)) :: S)))) : oG p e below s n0 kc ks Q (T.setTop (mkF m pc L (.int z :: .int x :: S))) := by
  obtain ⟨locs, X, eT, N, hx, hby, hml, hZ, hown, hnm, hret, hlk, hn⟩ := H
  subst hp
  exact oG.go (fun t hr => XT.ishl X.here hx rfl (hb hby hd) rfl hr) k
theorem o_ishr (H : oH p l e R s m args below meth c bc ml y rt Z n0 T h cells slots) {x z : Int32}  (hd : decode bc pc = .ok (.ishr, 1)) (hp : pc + 1 = pc') (k : oG p e below s n0 kc ks Q (T.setTop (mkF m pc' L (.int (x >>> (z &&& 31)) :: S)))) : oG p e below s n0 kc ks Q (T.setTop (mkF m pc L (.int z :: .int x :: S))) := by
  obtain ⟨locs, X, eT, N, hx, hby, hml, hZ, hown, hnm, hret, hlk, hn⟩ := H
  subst hp
  exact oG.go (fun t hr => XT.ishr X.here hx rfl (hb hby hd) rfl hr) k
theorem o_iushr (H : oH p l e R s m args below meth c bc ml y rt Z n0 T h cells slots) {x z : Int32}  (hd : decode bc pc = .ok (.iushr, 1)) (hp : pc + 1 = pc') (k : oG p e below s n0 kc ks Q (T.setTop (mkF m pc' L (.int (XT.ushr x z) :: S)))) : oG p e below s n0 kc ks Q (T.setTop (mkF m pc L (.int z :: .int x :: S))) := by
  obtain ⟨locs, X, eT, N, hx, hby, hml, hZ, hown, hnm, hret, hlk, hn⟩ := H
  subst hp
  exact oG.go (fun t hr => XT.iushr X.here hx rfl (hb hby hd) rfl hr) k
theorem o_ladd (H : oH p l e R s m args below meth c bc ml y rt Z n0 T h cells slots) {x z : Int64}  (hd : decode bc pc = .ok (.ladd, 1)) (hp : pc + 1 = pc') (k : oG p e below s n0 kc ks Q (T.setTop (mkF m pc' L (.long (x + z) :: S)))) : oG p e below s n0 kc ks Q (T.setTop (mkF m pc L (.long z :: .long x :: S))) := by
  obtain ⟨locs, X, eT, N, hx, hby, hml, hZ, hown, hnm, hret, hlk, hn⟩ := H
  subst hp
  exact oG.go (fun t hr => XT.ladd X.here hx rfl (hb hby hd) rfl hr) k
theorem o_lsub (H : oH p l e R s m args below meth c bc ml y rt Z n0 T h cells slots) {x z : Int64}  (hd : decode bc pc = .ok (.lsub, 1)) (hp : pc + 1 = pc') (k : oG p e below s n0 kc ks Q (T.setTop (mkF m pc' L (.long (x - z) :: S)))) : oG p e below s n0 kc ks Q (T.setTop (mkF m pc L (.long z :: .long x :: S))) := by
  obtain ⟨locs, X, eT, N, hx, hby, hml, hZ, hown, hnm, hret, hlk, hn⟩ := H
  subst hp
  exact oG.go (fun t hr => XT.lsub X.here hx rfl (hb hby hd) rfl hr) k
theorem o_lmul (H : oH p l e R s m args below meth c bc ml y rt Z n0 T h cells slots) {x z : Int64}  (hd : decode bc pc = .ok (.lmul, 1)) (hp : pc + 1 = pc') (k : oG p e below s n0 kc ks Q (T.setTop (mkF m pc' L (.long (x * z) :: S)))) : oG p e below s n0 kc ks Q (T.setTop (mkF m pc L (.long z :: .long x :: S))) := by
  obtain ⟨locs, X, eT, N, hx, hby, hml, hZ, hown, hnm, hret, hlk, hn⟩ := H
  subst hp
  exact oG.go (fun t hr => XT.lmul X.here hx rfl (hb hby hd) rfl hr) k
theorem o_land (H : oH p l e R s m args below meth c bc ml y rt Z n0 T h cells slots) {x z : Int64}  (hd : decode bc pc = .ok (.land, 1)) (hp : pc + 1 = pc') (k : oG p e below s n0 kc ks Q (T.setTop (mkF m pc' L (.long (x &&& z) :: S)))) : oG p e below s n0 kc ks Q (T.setTop (mkF m pc L (.long z :: .long x :: S))) := by
  obtain ⟨locs, X, eT, N, hx, hby, hml, hZ, hown, hnm, hret, hlk, hn⟩ := H
  subst hp
  exact oG.go (fun t hr => XT.land X.here hx rfl (hb hby hd) rfl hr) k
theorem o_lor (H : oH p l e R s m args below meth c bc ml y rt Z n0 T h cells slots) {x z : Int64}  (hd : decode bc pc = .ok (.lor, 1)) (hp : pc + 1 = pc') (k : oG p e below s n0 kc ks Q (T.setTop (mkF m pc' L (.long (x ||| z) :: S)))) : oG p e below s n0 kc ks Q (T.setTop (mkF m pc L (.long z :: .long x :: S))) := by
  obtain ⟨locs, X, eT, N, hx, hby, hml, hZ, hown, hnm, hret, hlk, hn⟩ := H
  subst hp
  exact oG.go (fun t hr => XT.lor X.here hx rfl (hb hby hd) rfl hr) k
theorem o_lxor (H : oH p l e R s m args below meth c bc ml y rt Z n0 T h cells slots) {x z : Int64}  (hd : decode bc pc = .ok (.lxor, 1)) (hp : pc + 1 = pc') (k : oG p e below s n0 kc ks Q (T.setTop (mkF m pc' L (.long (x ^^^ z) :: S)))) : oG p e below s n0 kc ks Q (T.setTop (mkF m pc L (.long z :: .long x :: S))) := by
  obtain ⟨locs, X, eT, N, hx, hby, hml, hZ, hown, hnm, hret, hlk, hn⟩ := H
  subst hp
  exact oG.go (fun t hr => XT.lxor X.here hx rfl (hb hby hd) rfl hr) k
theorem o_lcmp (H : oH p l e R s m args below meth c bc ml y rt Z n0 T h cells slots) {x z : Int64}  (hd : decode bc pc = .ok (.lcmp, 1)) (hp : pc + 1 = pc') (k : oG p e below s n0 kc ks Q (T.setTop (mkF m pc' L (.int (XT.cmpL x z) :: S)))) : oG p e below s n0 kc ks Q (T.setTop (mkF m pc L (.long z :: .long x :: S))) := by
  obtain ⟨locs, X, eT, N, hx, hby, hml, hZ, hown, hnm, hret, hlk, hn⟩ := H
  subst hp
  exact oG.go (fun t hr => XT.lcmp X.here hx rfl (hb hby hd) rfl hr) k
theorem o_lshl (H : oH p l e R s m args below meth c bc ml y rt Z n0 T h cells slots) {x : Int64} {z : Int32}  (hd : decode bc pc = .ok (.lshl, 1)) (hp : pc + 1 = pc') (k : oG p e below s n0 kc ks Q (T.setTop (mkF m pc' L (.long (x <<< (z.toInt64 &&& 63)) :: S)))) : oG p e below s n0 kc ks Q (T.setTop (mkF m pc L (.int z :: .long x :: S))) := by
  obtain ⟨locs, X, eT, N, hx, hby, hml, hZ, hown, hnm, hret, hlk, hn⟩ := H
  subst hp
  exact oG.go (fun t hr => XT.lshl X.here hx rfl (hb hby hd) rfl hr) k
theorem o_lshr (H : oH p l e R s m args below meth c bc ml y rt Z n0 T h cells slots) {x : Int64} {z : Int32}  (hd : decode bc pc = .ok (.lshr, 1)) (hp : pc + 1 = pc') (k : oG p e below s n0 kc ks Q (T.setTop (mkF m pc' L (.long (x >>> (z.toInt64 &&& 63)) :: S)))) : oG p e below s n0 kc ks Q (T.setTop (mkF m pc L (.int z :: .long x :: S))) := by
  obtain ⟨locs, X, eT, N, hx, hby, hml, hZ, hown, hnm, hret, hlk, hn⟩ := H
  subst hp
  exact oG.go (fun t hr => XT.lshr X.here hx rfl (hb hby hd) rfl hr) k
theorem o_lushr (H : oH p l e R s m args below meth c bc ml y rt Z n0 T h cells slots) {x : Int64} {z : Int32}  (hd : decode bc pc = .ok (.lushr, 1)) (hp : pc + 1 = pc') (k : oG p e below s n0 kc ks Q (T.setTop (mkF m pc' L (.long (XT.ushrL x z) :: S)))) : oG p e below s n0 kc ks Q (T.setTop (mkF m pc L (.int z :: .long x :: S))) := by
  obtain ⟨locs, X, eT, N, hx, hby, hml, hZ, hown, hnm, hret, hlk, hn⟩ := H
  subst hp
  exact oG.go (fun t hr => XT.lushr X.here hx rfl (hb hby hd) rfl hr) k
theorem o_idiv (H : oH p l e R s m args below meth c bc ml y rt Z n0 T h cells slots) {x z : Int32} (hz : z ≠ 0) (hd : decode bc pc = .ok (.idiv, 1)) (hp : pc + 1 = pc') (k : oG p e below s n0 kc ks Q (T.setTop (mkF m pc' L (.int (x / z) :: S)))) : oG p e below s n0 kc ks Q (T.setTop (mkF m pc L (.int z :: .int x :: S))) := by
  obtain ⟨locs, X, eT, N, hx, hby, hml, hZ, hown, hnm, hret, hlk, hn⟩ := H
  subst hp
  exact oG.go (fun t hr => XS.idiv X.here hx rfl (hb hby hd) rfl hz hr) k
theorem o_irem (H : oH p l e R s m args below meth c bc ml y rt Z n0 T h cells slots) {x z : Int32} (hz : z ≠ 0) (hd : decode bc pc = .ok (.irem, 1)) (hp : pc + 1 = pc') (k : oG p e below s n0 kc ks Q (T.setTop (mkF m pc' L (.int (x % z) :: S)))) : oG p e below s n0 kc ks Q (T.setTop (mkF m pc L (.int z :: .int x :: S))) := by
  obtain ⟨locs, X, eT, N, hx, hby, hml, hZ, hown, hnm, hret, hlk, hn⟩ := H
  subst hp
  exact oG.go (fun t hr => iremM X hx rfl (hb hby hd) rfl hz hr) k
theorem o_ineg (H : oH p l e R s m args below meth c bc ml y rt Z n0 T h cells slots) {x : Int32}  (hd : decode bc pc = .ok (.ineg, 1)) (hp : pc + 1 = pc') (k : oG p e below s n0 kc ks Q (T.setTop (mkF m pc' L (.int (-x) :: S)))) : oG p e below s n0 kc ks Q (T.setTop (mkF m pc L (.int x :: S))) := by
  obtain ⟨locs, X, eT, N, hx, hby, hml, hZ, hown, hnm, hret, hlk, hn⟩ := H
  subst hp
  exact oG.go (fun t hr => XS.ineg X.here hx rfl (hb hby hd) rfl hr) k
theorem o_lneg (H : oH p l e R s m args below meth c bc ml y rt Z n0 T h cells slots) {x : Int64}  (hd : decode bc pc = .ok (.lneg, 1)) (hp : pc + 1 = pc') (k : oG p e below s n0 kc ks Q (T.setTop (mkF m pc' L (.long (-x) :: S)))) : oG p e below s n0 kc ks Q (T.setTop (mkF m pc L (.long x :: S))) := by
  obtain ⟨locs, X, eT, N, hx, hby, hml, hZ, hown, hnm, hret, hlk, hn⟩ := H
  subst hp
  exact oG.go (fun t hr => XT.lneg X.here hx rfl (hb hby hd) rfl hr) k
theorem o_i2l (H : oH p l e R s m args below meth c bc ml y rt Z n0 T h cells slots) {x : Int32}  (hd : decode bc pc = .ok (.i2l, 1)) (hp : pc + 1 = pc') (k : oG p e below s n0 kc ks Q (T.setTop (mkF m pc' L (.long x.toInt64 :: S)))) : oG p e below s n0 kc ks Q (T.setTop (mkF m pc L (.int x :: S))) := by
  obtain ⟨locs, X, eT, N, hx, hby, hml, hZ, hown, hnm, hret, hlk, hn⟩ := H
  subst hp
  exact oG.go (fun t hr => XT.i2l X.here hx rfl (hb hby hd) rfl hr) k
theorem o_l2i (H : oH p l e R s m args below meth c bc ml y rt Z n0 T h cells slots) {x : Int64}  (hd : decode bc pc = .ok (.l2i, 1)) (hp : pc + 1 = pc') (k : oG p e below s n0 kc ks Q (T.setTop (mkF m pc' L (.int x.toInt32 :: S)))) : oG p e below s n0 kc ks Q (T.setTop (mkF m pc L (.long x :: S))) := by
  obtain ⟨locs, X, eT, N, hx, hby, hml, hZ, hown, hnm, hret, hlk, hn⟩ := H
  subst hp
  exact oG.go (fun t hr => XT.l2i X.here hx rfl (hb hby hd) rfl hr) k
theorem o_i2b (H : oH p l e R s m args below meth c bc ml y rt Z n0 T h cells slots) {x : Int32}  (hd : decode bc pc = .ok (.i2b, 1)) (hp : pc + 1 = pc') (k : oG p e below s n0 kc ks Q (T.setTop (mkF m pc' L (.int x.toInt8.toInt32 :: S)))) : oG p e below s n0 kc ks Q (T.setTop (mkF m pc L (.int x :: S))) := by
  obtain ⟨locs, X, eT, N, hx, hby, hml, hZ, hown, hnm, hret, hlk, hn⟩ := H
  subst hp
  exact oG.go (fun t hr => XT.i2b X.here hx rfl (hb hby hd) rfl hr) k
theorem o_i2c (H : oH p l e R s m args below meth c bc ml y rt Z n0 T h cells slots) {x : Int32}  (hd : decode bc pc = .ok (.i2c, 1)) (hp : pc + 1 = pc') (k : oG p e below s n0 kc ks Q (T.setTop (mkF m pc' L (.int x.toUInt32.toUInt16.toUInt32.toInt32 :: S)))) : oG p e below s n0 kc ks Q (T.setTop (mkF m pc L (.int x :: S))) := by
  obtain ⟨locs, X, eT, N, hx, hby, hml, hZ, hown, hnm, hret, hlk, hn⟩ := H
  subst hp
  exact oG.go (fun t hr => XT.i2c X.here hx rfl (hb hby hd) rfl hr) k
theorem o_i2s (H : oH p l e R s m args below meth c bc ml y rt Z n0 T h cells slots) {x : Int32}  (hd : decode bc pc = .ok (.i2s, 1)) (hp : pc + 1 = pc') (k : oG p e below s n0 kc ks Q (T.setTop (mkF m pc' L (.int x.toInt16.toInt32 :: S)))) : oG p e below s n0 kc ks Q (T.setTop (mkF m pc L (.int x :: S))) := by
  obtain ⟨locs, X, eT, N, hx, hby, hml, hZ, hown, hnm, hret, hlk, hn⟩ := H
  subst hp
  exact oG.go (fun t hr => XT.i2s X.here hx rfl (hb hby hd) rfl hr) k
theorem o_iinc (H : oH p l e R s m args below meth c bc ml y rt Z n0 T h cells slots) {j : Nat} {cst : Int} {x : Int32} (v u : Int32) (hv : Int32.ofInt cst = v) (hu : x + v = u) (hl : L[j]? = some (.val (.int x))) (hl' : storeLocals L j (.int u) = some L') (hd : decode bc pc = .ok (.iinc j cst, 3)) (hp : pc + 3 = pc') (k : oG p e below s n0 kc ks Q (T.setTop (mkF m pc' L' S))) : oG p e below s n0 kc ks Q (T.setTop (mkF m pc L S)) := by
  obtain ⟨locs, X, eT, N, hx, hby, hml, hZ, hown, hnm, hret, hlk, hn⟩ := H
  subst hp
  exact oG.go (fun t hr => XT.iincV X.here hx rfl v (hb hby hd) hv hl (hu ▸ hl') hr) k
theorem o_fold {x : Int32} (v : Int32) (hv : x = v) (k : oG p e below s n0 kc ks Q (T.setTop (mkF m pc L (.int v :: S)))) : oG p e below s n0 kc ks Q (T.setTop (mkF m pc L (.int x :: S))) := hv ▸ k
theorem o_foldJ {x : Int64} (v : Int64) (hv : x = v) (k : oG p e below s n0 kc ks Q (T.setTop (mkF m pc L (.long v :: S)))) : oG p e below s n0 kc ks Q (T.setTop (mkF m pc L (.long x :: S))) := hv ▸ k
theorem o_dup (H : oH p l e R s m args below meth c bc ml y rt Z n0 T h cells slots) {v : Value} (hc : v.category = 1) (hd : decode bc pc = .ok (.dup, 1)) (hp : pc + 1 = pc') (k : oG p e below s n0 kc ks Q (T.setTop (mkF m pc' L (v :: v :: S)))) : oG p e below s n0 kc ks Q (T.setTop (mkF m pc L (v :: S))) := by
  obtain ⟨locs, X, eT, N, hx, hby, hml, hZ, hown, hnm, hret, hlk, hn⟩ := H
  subst hp
  exact oG.go (fun t hr => XS.dup X.here hx rfl (hb hby hd) rfl hc hr) k
theorem o_dup_x1 (H : oH p l e R s m args below meth c bc ml y rt Z n0 T h cells slots) {v w : Value} (hc : v.category = 1) (hc' : w.category = 1) (hd : decode bc pc = .ok (.dup_x1, 1)) (hp : pc + 1 = pc') (k : oG p e below s n0 kc ks Q (T.setTop (mkF m pc' L (v :: w :: v :: S)))) : oG p e below s n0 kc ks Q (T.setTop (mkF m pc L (v :: w :: S))) := by
  obtain ⟨locs, X, eT, N, hx, hby, hml, hZ, hown, hnm, hret, hlk, hn⟩ := H
  subst hp
  exact oG.go (fun t hr => XT.dupX1 X.here hx rfl (hb hby hd) rfl hc hc' hr) k
theorem o_dup2 (H : oH p l e R s m args below meth c bc ml y rt Z n0 T h cells slots) {v w : Value} (hc : v.category = 1) (hc' : w.category = 1) (hd : decode bc pc = .ok (.dup2, 1)) (hp : pc + 1 = pc') (k : oG p e below s n0 kc ks Q (T.setTop (mkF m pc' L (v :: w :: v :: w :: S)))) : oG p e below s n0 kc ks Q (T.setTop (mkF m pc L (v :: w :: S))) := by
  obtain ⟨locs, X, eT, N, hx, hby, hml, hZ, hown, hnm, hret, hlk, hn⟩ := H
  subst hp
  exact oG.go (fun t hr => XT.dup2 X.here hx rfl (hb hby hd) rfl hc hc' hr) k
theorem o_dup2L (H : oH p l e R s m args below meth c bc ml y rt Z n0 T h cells slots) {v : Int64}  (hd : decode bc pc = .ok (.dup2, 1)) (hp : pc + 1 = pc') (k : oG p e below s n0 kc ks Q (T.setTop (mkF m pc' L (.long v :: .long v :: S)))) : oG p e below s n0 kc ks Q (T.setTop (mkF m pc L (.long v :: S))) := by
  obtain ⟨locs, X, eT, N, hx, hby, hml, hZ, hown, hnm, hret, hlk, hn⟩ := H
  subst hp
  exact oG.go (fun t hr => XT.dup2L X.here hx rfl (hb hby hd) rfl hr) k
theorem o_pop (H : oH p l e R s m args below meth c bc ml y rt Z n0 T h cells slots) {v : Value} (hc : v.category = 1) (hd : decode bc pc = .ok (.pop, 1)) (hp : pc + 1 = pc') (k : oG p e below s n0 kc ks Q (T.setTop (mkF m pc' L S))) : oG p e below s n0 kc ks Q (T.setTop (mkF m pc L (v :: S))) := by
  obtain ⟨locs, X, eT, N, hx, hby, hml, hZ, hown, hnm, hret, hlk, hn⟩ := H
  subst hp
  exact oG.go (fun t hr => XT.pop X.here hx rfl (hb hby hd) rfl hc hr) k
theorem o_one {i : Nat} {v : Value} {sl : Slot} (hs : L[i]? = some sl) (h1 : sl = .unset ∨ ∃ z, sl = .val (.int z)) (hv : v.category = 1) : storeLocals L i v = some (L.setIfInBounds i (.val v)) :=
  XS.store1 hs (h1.imp id fun ⟨z, q⟩ => ⟨.int z, q, rfl⟩) hv
theorem o_len {vs : List Int32} : (vs.map Value.int).length.toInt32 = Int32.ofNat vs.length := by rw [List.length_map]
theorem o_get {vs : List Int32} {i : Nat} (h : i < vs.length) : (vs.map Value.int)[i]? = some (.int (vs[i]'h)) := by simp [h]
theorem o_ofNat {n : Nat} (h : n < 2147483648) : (Int32.ofNat n).toInt = n := Int32.toInt_ofNat_of_lt (by omega)
theorem o_lenJ {vs : List Int64} : (vs.map Value.long).length.toInt32 = Int32.ofNat vs.length := by rw [List.length_map]
theorem o_getJ {vs : List Int64} {i : Nat} (h : i < vs.length) : (vs.map Value.long)[i]? = some (.long (vs[i]'h)) := by simp [h]
theorem o_succ {n : Nat} : Int32.ofNat n + 1 = Int32.ofNat (n + 1) := (Int32.ofNat_add n 1).symm
theorem o_bt {A : Prop} [Decidable A] {b : Int32} (e : b = if A then (1 : Int32) else 0) (q : ¬ b = 0) : A := by
  by_cases a : A
  · exact a
  · rw [if_neg a] at e; exact absurd e q
theorem o_bf {A : Prop} [Decidable A] {b : Int32} (e : b = if A then (1 : Int32) else 0) (q : b = 0) : ¬ A := by
  intro a
  exact absurd ((e.trans (if_pos a)).symm.trans q) (by decide)
theorem o_goto (H : oH p l e R s m args below meth c bc ml y rt Z n0 T h cells slots) {o : Int} (hd : decode bc pc = .ok (.goto o, 3)) (ho : 0 ≤ (pc : Int) + o) (hp : ((pc : Int) + o).toNat = pt) (k : oG p e below s n0 kc ks Q (T.setTop (mkF m pt L S))) : oG p e below s n0 kc ks Q (T.setTop (mkF m pc L S)) := by
  obtain ⟨locs, X, eT, N, hx, hby, hml, hZ, hown, hnm, hret, hlk, hn⟩ := H
  exact oG.go (fun t hr => XS.goto X.here hx rfl rfl (hb hby hd) ho hp hr) k
theorem o_icmp_eq (H : oH p l e R s m args below meth c bc ml y rt Z n0 T h cells slots) {o : Int} {x z : Int32} (hd : decode bc pc = .ok (.if_icmp .eq o, 3)) (ho : 0 ≤ (pc : Int) + o) (hp : ((pc : Int) + o).toNat = pt) (hp' : pc + 3 = pc') (kt : x = z → oG p e below s n0 kc ks Q (T.setTop (mkF m pt L S))) (kf : ¬ x = z → oG p e below s n0 kc ks Q (T.setTop (mkF m pc' L S))) : oG p e below s n0 kc ks Q (T.setTop (mkF m pc L (.int z :: .int x :: S))) := by
  by_cases q : x = z
  · have k := kt q
    obtain ⟨locs, X, eT, N, hx, hby, hml, hZ, hown, hnm, hret, hlk, hn⟩ := H
    exact oG.go (fun t hr => XS.icmpYes X.here hx rfl rfl (hb hby hd) rfl (XT.ii_eq_t q) ho hp hr) k
  · have k := kf q
    obtain ⟨locs, X, eT, N, hx, hby, hml, hZ, hown, hnm, hret, hlk, hn⟩ := H
    subst hp'
    exact oG.go (fun t hr => XS.icmpNo X.here hx rfl (hb hby hd) rfl (XT.ii_eq_f q) hr) k
theorem o_if_eq (H : oH p l e R s m args below meth c bc ml y rt Z n0 T h cells slots) {o : Int} {x : Int32} (hd : decode bc pc = .ok (.ifCond .eq o, 3)) (ho : 0 ≤ (pc : Int) + o) (hp : ((pc : Int) + o).toNat = pt) (hp' : pc + 3 = pc') (kt : x = 0 → oG p e below s n0 kc ks Q (T.setTop (mkF m pt L S))) (kf : ¬ x = 0 → oG p e below s n0 kc ks Q (T.setTop (mkF m pc' L S))) : oG p e below s n0 kc ks Q (T.setTop (mkF m pc L (.int x :: S))) := by
  by_cases q : x = 0
  · have k := kt q
    obtain ⟨locs, X, eT, N, hx, hby, hml, hZ, hown, hnm, hret, hlk, hn⟩ := H
    exact oG.go (fun t hr => XS.ifYes X.here hx rfl rfl (hb hby hd) rfl (XT.i0_eq_t q) ho hp hr) k
  · have k := kf q
    obtain ⟨locs, X, eT, N, hx, hby, hml, hZ, hown, hnm, hret, hlk, hn⟩ := H
    subst hp'
    exact oG.go (fun t hr => XS.ifNo X.here hx rfl (hb hby hd) rfl (XT.i0_eq_f q) hr) k
theorem o_ifl_eq (H : oH p l e R s m args below meth c bc ml y rt Z n0 T h cells slots) {o : Int} {x z : Int64} (hd : decode bc pc = .ok (.ifCond .eq o, 3)) (ho : 0 ≤ (pc : Int) + o) (hp : ((pc : Int) + o).toNat = pt) (hp' : pc + 3 = pc') (kt : x = z → oG p e below s n0 kc ks Q (T.setTop (mkF m pt L S))) (kf : ¬ x = z → oG p e below s n0 kc ks Q (T.setTop (mkF m pc' L S))) : oG p e below s n0 kc ks Q (T.setTop (mkF m pc L (.int (XT.cmpL x z) :: S))) := by
  by_cases q : x = z
  · have k := kt q
    obtain ⟨locs, X, eT, N, hx, hby, hml, hZ, hown, hnm, hret, hlk, hn⟩ := H
    exact oG.go (fun t hr => XS.ifYes X.here hx rfl rfl (hb hby hd) rfl (XT.ll_eq_t q) ho hp hr) k
  · have k := kf q
    obtain ⟨locs, X, eT, N, hx, hby, hml, hZ, hown, hnm, hret, hlk, hn⟩ := H
    subst hp'
    exact oG.go (fun t hr => XS.ifNo X.here hx rfl (hb hby hd) rfl (XT.ll_eq_f q) hr) k
theorem o_icmp_ne (H : oH p l e R s m args below meth c bc ml y rt Z n0 T h cells slots) {o : Int} {x z : Int32} (hd : decode bc pc = .ok (.if_icmp .ne o, 3)) (ho : 0 ≤ (pc : Int) + o) (hp : ((pc : Int) + o).toNat = pt) (hp' : pc + 3 = pc') (kt : ¬ x = z → oG p e below s n0 kc ks Q (T.setTop (mkF m pt L S))) (kf : x = z → oG p e below s n0 kc ks Q (T.setTop (mkF m pc' L S))) : oG p e below s n0 kc ks Q (T.setTop (mkF m pc L (.int z :: .int x :: S))) := by
  by_cases q : ¬ x = z
  · have k := kt q
    obtain ⟨locs, X, eT, N, hx, hby, hml, hZ, hown, hnm, hret, hlk, hn⟩ := H
    exact oG.go (fun t hr => XS.icmpYes X.here hx rfl rfl (hb hby hd) rfl (XT.ii_ne_t q) ho hp hr) k
  · have k := kf (Classical.not_not.mp q)
    obtain ⟨locs, X, eT, N, hx, hby, hml, hZ, hown, hnm, hret, hlk, hn⟩ := H
    subst hp'
    exact oG.go (fun t hr => XS.icmpNo X.here hx rfl (hb hby hd) rfl (XT.ii_ne_f (Classical.not_not.mp q)) hr) k
theorem o_if_ne (H : oH p l e R s m args below meth c bc ml y rt Z n0 T h cells slots) {o : Int} {x : Int32} (hd : decode bc pc = .ok (.ifCond .ne o, 3)) (ho : 0 ≤ (pc : Int) + o) (hp : ((pc : Int) + o).toNat = pt) (hp' : pc + 3 = pc') (kt : ¬ x = 0 → oG p e below s n0 kc ks Q (T.setTop (mkF m pt L S))) (kf : x = 0 → oG p e below s n0 kc ks Q (T.setTop (mkF m pc' L S))) : oG p e below s n0 kc ks Q (T.setTop (mkF m pc L (.int x :: S))) := by
  by_cases q : ¬ x = 0
  · have k := kt q
    obtain ⟨locs, X, eT, N, hx, hby, hml, hZ, hown, hnm, hret, hlk, hn⟩ := H
    exact oG.go (fun t hr => XS.ifYes X.here hx rfl rfl (hb hby hd) rfl (XT.i0_ne_t q) ho hp hr) k
  · have k := kf (Classical.not_not.mp q)
    obtain ⟨locs, X, eT, N, hx, hby, hml, hZ, hown, hnm, hret, hlk, hn⟩ := H
    subst hp'
    exact oG.go (fun t hr => XS.ifNo X.here hx rfl (hb hby hd) rfl (XT.i0_ne_f (Classical.not_not.mp q)) hr) k
theorem o_ifl_ne (H : oH p l e R s m args below meth c bc ml y rt Z n0 T h cells slots) {o : Int} {x z : Int64} (hd : decode bc pc = .ok (.ifCond .ne o, 3)) (ho : 0 ≤ (pc : Int) + o) (hp : ((pc : Int) + o).toNat = pt) (hp' : pc + 3 = pc') (kt : ¬ x = z → oG p e below s n0 kc ks Q (T.setTop (mkF m pt L S))) (kf : x = z → oG p e below s n0 kc ks Q (T.setTop (mkF m pc' L S))) : oG p e below s n0 kc ks Q (T.setTop (mkF m pc L (.int (XT.cmpL x z) :: S))) := by
  by_cases q : ¬ x = z
  · have k := kt q
    obtain ⟨locs, X, eT, N, hx, hby, hml, hZ, hown, hnm, hret, hlk, hn⟩ := H
    exact oG.go (fun t hr => XS.ifYes X.here hx rfl rfl (hb hby hd) rfl (XT.ll_ne_t q) ho hp hr) k
  · have k := kf (Classical.not_not.mp q)
    obtain ⟨locs, X, eT, N, hx, hby, hml, hZ, hown, hnm, hret, hlk, hn⟩ := H
    subst hp'
    exact oG.go (fun t hr => XS.ifNo X.here hx rfl (hb hby hd) rfl (XT.ll_ne_f (Classical.not_not.mp q)) hr) k
theorem o_icmp_lt (H : oH p l e R s m args below meth c bc ml y rt Z n0 T h cells slots) {o : Int} {x z : Int32} (hd : decode bc pc = .ok (.if_icmp .lt o, 3)) (ho : 0 ≤ (pc : Int) + o) (hp : ((pc : Int) + o).toNat = pt) (hp' : pc + 3 = pc') (kt : x < z → oG p e below s n0 kc ks Q (T.setTop (mkF m pt L S))) (kf : ¬ x < z → oG p e below s n0 kc ks Q (T.setTop (mkF m pc' L S))) : oG p e below s n0 kc ks Q (T.setTop (mkF m pc L (.int z :: .int x :: S))) := by
  by_cases q : x < z
  · have k := kt q
    obtain ⟨locs, X, eT, N, hx, hby, hml, hZ, hown, hnm, hret, hlk, hn⟩ := H
    exact oG.go (fun t hr => XS.icmpYes X.here hx rfl rfl (hb hby hd) rfl (XT.ii_lt_t q) ho hp hr) k
  · have k := kf q
    obtain ⟨locs, X, eT, N, hx, hby, hml, hZ, hown, hnm, hret, hlk, hn⟩ := H
    subst hp'
    exact oG.go (fun t hr => XS.icmpNo X.here hx rfl (hb hby hd) rfl (XT.ii_lt_f q) hr) k
theorem o_if_lt (H : oH p l e R s m args below meth c bc ml y rt Z n0 T h cells slots) {o : Int} {x : Int32} (hd : decode bc pc = .ok (.ifCond .lt o, 3)) (ho : 0 ≤ (pc : Int) + o) (hp : ((pc : Int) + o).toNat = pt) (hp' : pc + 3 = pc') (kt : x < 0 → oG p e below s n0 kc ks Q (T.setTop (mkF m pt L S))) (kf : ¬ x < 0 → oG p e below s n0 kc ks Q (T.setTop (mkF m pc' L S))) : oG p e below s n0 kc ks Q (T.setTop (mkF m pc L (.int x :: S))) := by
  by_cases q : x < 0
  · have k := kt q
    obtain ⟨locs, X, eT, N, hx, hby, hml, hZ, hown, hnm, hret, hlk, hn⟩ := H
    exact oG.go (fun t hr => XS.ifYes X.here hx rfl rfl (hb hby hd) rfl (XT.i0_lt_t q) ho hp hr) k
  · have k := kf q
    obtain ⟨locs, X, eT, N, hx, hby, hml, hZ, hown, hnm, hret, hlk, hn⟩ := H
    subst hp'
    exact oG.go (fun t hr => XS.ifNo X.here hx rfl (hb hby hd) rfl (XT.i0_lt_f q) hr) k
theorem o_ifl_lt (H : oH p l e R s m args below meth c bc ml y rt Z n0 T h cells slots) {o : Int} {x z : Int64} (hd : decode bc pc = .ok (.ifCond .lt o, 3)) (ho : 0 ≤ (pc : Int) + o) (hp : ((pc : Int) + o).toNat = pt) (hp' : pc + 3 = pc') (kt : x < z → oG p e below s n0 kc ks Q (T.setTop (mkF m pt L S))) (kf : ¬ x < z → oG p e below s n0 kc ks Q (T.setTop (mkF m pc' L S))) : oG p e below s n0 kc ks Q (T.setTop (mkF m pc L (.int (XT.cmpL x z) :: S))) := by
  by_cases q : x < z
  · have k := kt q
    obtain ⟨locs, X, eT, N, hx, hby, hml, hZ, hown, hnm, hret, hlk, hn⟩ := H
    exact oG.go (fun t hr => XS.ifYes X.here hx rfl rfl (hb hby hd) rfl (XT.ll_lt_t q) ho hp hr) k
  · have k := kf q
    obtain ⟨locs, X, eT, N, hx, hby, hml, hZ, hown, hnm, hret, hlk, hn⟩ := H
    subst hp'
    exact oG.go (fun t hr => XS.ifNo X.here hx rfl (hb hby hd) rfl (XT.ll_lt_f q) hr) k
theorem o_icmp_ge (H : oH p l e R s m args below meth c bc ml y rt Z n0 T h cells slots) {o : Int} {x z : Int32} (hd : decode bc pc = .ok (.if_icmp .ge o, 3)) (ho : 0 ≤ (pc : Int) + o) (hp : ((pc : Int) + o).toNat = pt) (hp' : pc + 3 = pc') (kt : ¬ x < z → oG p e below s n0 kc ks Q (T.setTop (mkF m pt L S))) (kf : x < z → oG p e below s n0 kc ks Q (T.setTop (mkF m pc' L S))) : oG p e below s n0 kc ks Q (T.setTop (mkF m pc L (.int z :: .int x :: S))) := by
  by_cases q : ¬ x < z
  · have k := kt q
    obtain ⟨locs, X, eT, N, hx, hby, hml, hZ, hown, hnm, hret, hlk, hn⟩ := H
    exact oG.go (fun t hr => XS.icmpYes X.here hx rfl rfl (hb hby hd) rfl (XT.ii_ge_t q) ho hp hr) k
  · have k := kf (Classical.not_not.mp q)
    obtain ⟨locs, X, eT, N, hx, hby, hml, hZ, hown, hnm, hret, hlk, hn⟩ := H
    subst hp'
    exact oG.go (fun t hr => XS.icmpNo X.here hx rfl (hb hby hd) rfl (XT.ii_ge_f (Classical.not_not.mp q)) hr) k
theorem o_if_ge (H : oH p l e R s m args below meth c bc ml y rt Z n0 T h cells slots) {o : Int} {x : Int32} (hd : decode bc pc = .ok (.ifCond .ge o, 3)) (ho : 0 ≤ (pc : Int) + o) (hp : ((pc : Int) + o).toNat = pt) (hp' : pc + 3 = pc') (kt : ¬ x < 0 → oG p e below s n0 kc ks Q (T.setTop (mkF m pt L S))) (kf : x < 0 → oG p e below s n0 kc ks Q (T.setTop (mkF m pc' L S))) : oG p e below s n0 kc ks Q (T.setTop (mkF m pc L (.int x :: S))) := by
  by_cases q : ¬ x < 0
  · have k := kt q
    obtain ⟨locs, X, eT, N, hx, hby, hml, hZ, hown, hnm, hret, hlk, hn⟩ := H
    exact oG.go (fun t hr => XS.ifYes X.here hx rfl rfl (hb hby hd) rfl (XT.i0_ge_t q) ho hp hr) k
  · have k := kf (Classical.not_not.mp q)
    obtain ⟨locs, X, eT, N, hx, hby, hml, hZ, hown, hnm, hret, hlk, hn⟩ := H
    subst hp'
    exact oG.go (fun t hr => XS.ifNo X.here hx rfl (hb hby hd) rfl (XT.i0_ge_f (Classical.not_not.mp q)) hr) k
theorem o_ifl_ge (H : oH p l e R s m args below meth c bc ml y rt Z n0 T h cells slots) {o : Int} {x z : Int64} (hd : decode bc pc = .ok (.ifCond .ge o, 3)) (ho : 0 ≤ (pc : Int) + o) (hp : ((pc : Int) + o).toNat = pt) (hp' : pc + 3 = pc') (kt : ¬ x < z → oG p e below s n0 kc ks Q (T.setTop (mkF m pt L S))) (kf : x < z → oG p e below s n0 kc ks Q (T.setTop (mkF m pc' L S))) : oG p e below s n0 kc ks Q (T.setTop (mkF m pc L (.int (XT.cmpL x z) :: S))) := by
  by_cases q : ¬ x < z
  · have k := kt q
    obtain ⟨locs, X, eT, N, hx, hby, hml, hZ, hown, hnm, hret, hlk, hn⟩ := H
    exact oG.go (fun t hr => XS.ifYes X.here hx rfl rfl (hb hby hd) rfl (XT.ll_ge_t q) ho hp hr) k
  · have k := kf (Classical.not_not.mp q)
    obtain ⟨locs, X, eT, N, hx, hby, hml, hZ, hown, hnm, hret, hlk, hn⟩ := H
    subst hp'
    exact oG.go (fun t hr => XS.ifNo X.here hx rfl (hb hby hd) rfl (XT.ll_ge_f (Classical.not_not.mp q)) hr) k
theorem o_icmp_gt (H : oH p l e R s m args below meth c bc ml y rt Z n0 T h cells slots) {o : Int} {x z : Int32} (hd : decode bc pc = .ok (.if_icmp .gt o, 3)) (ho : 0 ≤ (pc : Int) + o) (hp : ((pc : Int) + o).toNat = pt) (hp' : pc + 3 = pc') (kt : z < x → oG p e below s n0 kc ks Q (T.setTop (mkF m pt L S))) (kf : ¬ z < x → oG p e below s n0 kc ks Q (T.setTop (mkF m pc' L S))) : oG p e below s n0 kc ks Q (T.setTop (mkF m pc L (.int z :: .int x :: S))) := by
  by_cases q : z < x
  · have k := kt q
    obtain ⟨locs, X, eT, N, hx, hby, hml, hZ, hown, hnm, hret, hlk, hn⟩ := H
    exact oG.go (fun t hr => XS.icmpYes X.here hx rfl rfl (hb hby hd) rfl (XT.ii_gt_t q) ho hp hr) k
  · have k := kf q
    obtain ⟨locs, X, eT, N, hx, hby, hml, hZ, hown, hnm, hret, hlk, hn⟩ := H
    subst hp'
    exact oG.go (fun t hr => XS.icmpNo X.here hx rfl (hb hby hd) rfl (XT.ii_gt_f q) hr) k
theorem o_if_gt (H : oH p l e R s m args below meth c bc ml y rt Z n0 T h cells slots) {o : Int} {x : Int32} (hd : decode bc pc = .ok (.ifCond .gt o, 3)) (ho : 0 ≤ (pc : Int) + o) (hp : ((pc : Int) + o).toNat = pt) (hp' : pc + 3 = pc') (kt : 0 < x → oG p e below s n0 kc ks Q (T.setTop (mkF m pt L S))) (kf : ¬ 0 < x → oG p e below s n0 kc ks Q (T.setTop (mkF m pc' L S))) : oG p e below s n0 kc ks Q (T.setTop (mkF m pc L (.int x :: S))) := by
  by_cases q : 0 < x
  · have k := kt q
    obtain ⟨locs, X, eT, N, hx, hby, hml, hZ, hown, hnm, hret, hlk, hn⟩ := H
    exact oG.go (fun t hr => XS.ifYes X.here hx rfl rfl (hb hby hd) rfl (XT.i0_gt_t q) ho hp hr) k
  · have k := kf q
    obtain ⟨locs, X, eT, N, hx, hby, hml, hZ, hown, hnm, hret, hlk, hn⟩ := H
    subst hp'
    exact oG.go (fun t hr => XS.ifNo X.here hx rfl (hb hby hd) rfl (XT.i0_gt_f q) hr) k
theorem o_ifl_gt (H : oH p l e R s m args below meth c bc ml y rt Z n0 T h cells slots) {o : Int} {x z : Int64} (hd : decode bc pc = .ok (.ifCond .gt o, 3)) (ho : 0 ≤ (pc : Int) + o) (hp : ((pc : Int) + o).toNat = pt) (hp' : pc + 3 = pc') (kt : z < x → oG p e below s n0 kc ks Q (T.setTop (mkF m pt L S))) (kf : ¬ z < x → oG p e below s n0 kc ks Q (T.setTop (mkF m pc' L S))) : oG p e below s n0 kc ks Q (T.setTop (mkF m pc L (.int (XT.cmpL x z) :: S))) := by
  by_cases q : z < x
  · have k := kt q
    obtain ⟨locs, X, eT, N, hx, hby, hml, hZ, hown, hnm, hret, hlk, hn⟩ := H
    exact oG.go (fun t hr => XS.ifYes X.here hx rfl rfl (hb hby hd) rfl (XT.ll_gt_t q) ho hp hr) k
  · have k := kf q
    obtain ⟨locs, X, eT, N, hx, hby, hml, hZ, hown, hnm, hret, hlk, hn⟩ := H
    subst hp'
    exact oG.go (fun t hr => XS.ifNo X.here hx rfl (hb hby hd) rfl (XT.ll_gt_f q) hr) k
theorem o_icmp_le (H : oH p l e R s m args below meth c bc ml y rt Z n0 T h cells slots) {o : Int} {x z : Int32} (hd : decode bc pc = .ok (.if_icmp .le o, 3)) (ho : 0 ≤ (pc : Int) + o) (hp : ((pc : Int) + o).toNat = pt) (hp' : pc + 3 = pc') (kt : ¬ z < x → oG p e below s n0 kc ks Q (T.setTop (mkF m pt L S))) (kf : z < x → oG p e below s n0 kc ks Q (T.setTop (mkF m pc' L S))) : oG p e below s n0 kc ks Q (T.setTop (mkF m pc L (.int z :: .int x :: S))) := by
  by_cases q : ¬ z < x
  · have k := kt q
    obtain ⟨locs, X, eT, N, hx, hby, hml, hZ, hown, hnm, hret, hlk, hn⟩ := H
    exact oG.go (fun t hr => XS.icmpYes X.here hx rfl rfl (hb hby hd) rfl (XT.ii_le_t q) ho hp hr) k
  · have k := kf (Classical.not_not.mp q)
    obtain ⟨locs, X, eT, N, hx, hby, hml, hZ, hown, hnm, hret, hlk, hn⟩ := H
    subst hp'
    exact oG.go (fun t hr => XS.icmpNo X.here hx rfl (hb hby hd) rfl (XT.ii_le_f (Classical.not_not.mp q)) hr) k
theorem o_if_le (H : oH p l e R s m args below meth c bc ml y rt Z n0 T h cells slots) {o : Int} {x : Int32} (hd : decode bc pc = .ok (.ifCond .le o, 3)) (ho : 0 ≤ (pc : Int) + o) (hp : ((pc : Int) + o).toNat = pt) (hp' : pc + 3 = pc') (kt : ¬ 0 < x → oG p e below s n0 kc ks Q (T.setTop (mkF m pt L S))) (kf : 0 < x → oG p e below s n0 kc ks Q (T.setTop (mkF m pc' L S))) : oG p e below s n0 kc ks Q (T.setTop (mkF m pc L (.int x :: S))) := by
  by_cases q : ¬ 0 < x
  · have k := kt q
    obtain ⟨locs, X, eT, N, hx, hby, hml, hZ, hown, hnm, hret, hlk, hn⟩ := H
    exact oG.go (fun t hr => XS.ifYes X.here hx rfl rfl (hb hby hd) rfl (XT.i0_le_t q) ho hp hr) k
  · have k := kf (Classical.not_not.mp q)
    obtain ⟨locs, X, eT, N, hx, hby, hml, hZ, hown, hnm, hret, hlk, hn⟩ := H
    subst hp'
    exact oG.go (fun t hr => XS.ifNo X.here hx rfl (hb hby hd) rfl (XT.i0_le_f (Classical.not_not.mp q)) hr) k
theorem o_ifl_le (H : oH p l e R s m args below meth c bc ml y rt Z n0 T h cells slots) {o : Int} {x z : Int64} (hd : decode bc pc = .ok (.ifCond .le o, 3)) (ho : 0 ≤ (pc : Int) + o) (hp : ((pc : Int) + o).toNat = pt) (hp' : pc + 3 = pc') (kt : ¬ z < x → oG p e below s n0 kc ks Q (T.setTop (mkF m pt L S))) (kf : z < x → oG p e below s n0 kc ks Q (T.setTop (mkF m pc' L S))) : oG p e below s n0 kc ks Q (T.setTop (mkF m pc L (.int (XT.cmpL x z) :: S))) := by
  by_cases q : ¬ z < x
  · have k := kt q
    obtain ⟨locs, X, eT, N, hx, hby, hml, hZ, hown, hnm, hret, hlk, hn⟩ := H
    exact oG.go (fun t hr => XS.ifYes X.here hx rfl rfl (hb hby hd) rfl (XT.ll_le_t q) ho hp hr) k
  · have k := kf (Classical.not_not.mp q)
    obtain ⟨locs, X, eT, N, hx, hby, hml, hZ, hown, hnm, hret, hlk, hn⟩ := H
    subst hp'
    exact oG.go (fun t hr => XS.ifNo X.here hx rfl (hb hby hd) rfl (XT.ll_le_f (Classical.not_not.mp q)) hr) k
theorem o_icmp_t (H : oH p l e R s m args below meth c bc ml y rt Z n0 T h cells slots) {o : Int} {cd : ClassFile.Cond} {x z : Int32} (hd : decode bc pc = .ok (.if_icmp cd o, 3)) (hc : if_icmp.holds cd x z = true) (ho : 0 ≤ (pc : Int) + o) (hp : ((pc : Int) + o).toNat = pt) (k : oG p e below s n0 kc ks Q (T.setTop (mkF m pt L S))) : oG p e below s n0 kc ks Q (T.setTop (mkF m pc L (.int z :: .int x :: S))) := by
  obtain ⟨locs, X, eT, N, hx, hby, hml, hZ, hown, hnm, hret, hlk, hn⟩ := H
  exact oG.go (fun t hr => XS.icmpYes X.here hx rfl rfl (hb hby hd) rfl hc ho hp hr) k
theorem o_icmp_f (H : oH p l e R s m args below meth c bc ml y rt Z n0 T h cells slots) {o : Int} {cd : ClassFile.Cond} {x z : Int32} (hd : decode bc pc = .ok (.if_icmp cd o, 3)) (hc : if_icmp.holds cd x z = false) (hp : pc + 3 = pc') (k : oG p e below s n0 kc ks Q (T.setTop (mkF m pc' L S))) : oG p e below s n0 kc ks Q (T.setTop (mkF m pc L (.int z :: .int x :: S))) := by
  obtain ⟨locs, X, eT, N, hx, hby, hml, hZ, hown, hnm, hret, hlk, hn⟩ := H
  subst hp
  exact oG.go (fun t hr => XS.icmpNo X.here hx rfl (hb hby hd) rfl hc hr) k
theorem o_if_t (H : oH p l e R s m args below meth c bc ml y rt Z n0 T h cells slots) {o : Int} {cd : ClassFile.Cond} {x : Int32} (hd : decode bc pc = .ok (.ifCond cd o, 3)) (hc : ifCond.holds cd x = true) (ho : 0 ≤ (pc : Int) + o) (hp : ((pc : Int) + o).toNat = pt) (k : oG p e below s n0 kc ks Q (T.setTop (mkF m pt L S))) : oG p e below s n0 kc ks Q (T.setTop (mkF m pc L (.int x :: S))) := by
  obtain ⟨locs, X, eT, N, hx, hby, hml, hZ, hown, hnm, hret, hlk, hn⟩ := H
  exact oG.go (fun t hr => XS.ifYes X.here hx rfl rfl (hb hby hd) rfl hc ho hp hr) k
theorem o_if_f (H : oH p l e R s m args below meth c bc ml y rt Z n0 T h cells slots) {o : Int} {cd : ClassFile.Cond} {x : Int32} (hd : decode bc pc = .ok (.ifCond cd o, 3)) (hc : ifCond.holds cd x = false) (hp : pc + 3 = pc') (k : oG p e below s n0 kc ks Q (T.setTop (mkF m pc' L S))) : oG p e below s n0 kc ks Q (T.setTop (mkF m pc L (.int x :: S))) := by
  obtain ⟨locs, X, eT, N, hx, hby, hml, hZ, hown, hnm, hret, hlk, hn⟩ := H
  subst hp
  exact oG.go (fun t hr => XS.ifNo X.here hx rfl (hb hby hd) rfl hc hr) k
theorem o_ifnull_t (H : oH p l e R s m args below meth c bc ml y rt Z n0 T h cells slots) {o : Int} (hd : decode bc pc = .ok (.ifnull o, 3)) (ho : 0 ≤ (pc : Int) + o) (hp : ((pc : Int) + o).toNat = pt) (k : oG p e below s n0 kc ks Q (T.setTop (mkF m pt L S))) : oG p e below s n0 kc ks Q (T.setTop (mkF m pc L (.null :: S))) := by
  obtain ⟨locs, X, eT, N, hx, hby, hml, hZ, hown, hnm, hret, hlk, hn⟩ := H
  exact oG.go (fun t hr => XS.ifnullYes X.here hx rfl rfl (hb hby hd) rfl ho hp hr) k
theorem o_ifnull_f (H : oH p l e R s m args below meth c bc ml y rt Z n0 T h cells slots) {o : Int} {a : Addr} (hd : decode bc pc = .ok (.ifnull o, 3)) (hp : pc + 3 = pc') (k : oG p e below s n0 kc ks Q (T.setTop (mkF m pc' L S))) : oG p e below s n0 kc ks Q (T.setTop (mkF m pc L (.ref a :: S))) := by
  obtain ⟨locs, X, eT, N, hx, hby, hml, hZ, hown, hnm, hret, hlk, hn⟩ := H
  subst hp
  exact oG.go (fun t hr => XS.ifnullNo X.here hx rfl (hb hby hd) rfl hr) k
theorem o_ifnonnull_t (H : oH p l e R s m args below meth c bc ml y rt Z n0 T h cells slots) {o : Int} {a : Addr} (hd : decode bc pc = .ok (.ifnonnull o, 3)) (ho : 0 ≤ (pc : Int) + o) (hp : ((pc : Int) + o).toNat = pt) (k : oG p e below s n0 kc ks Q (T.setTop (mkF m pt L S))) : oG p e below s n0 kc ks Q (T.setTop (mkF m pc L (.ref a :: S))) := by
  obtain ⟨locs, X, eT, N, hx, hby, hml, hZ, hown, hnm, hret, hlk, hn⟩ := H
  exact oG.go (fun t hr => XT.ifnonnullYes X.here hx rfl rfl (hb hby hd) rfl ho hp hr) k
theorem o_ifnonnull_f (H : oH p l e R s m args below meth c bc ml y rt Z n0 T h cells slots) {o : Int} (hd : decode bc pc = .ok (.ifnonnull o, 3)) (hp : pc + 3 = pc') (k : oG p e below s n0 kc ks Q (T.setTop (mkF m pc' L S))) : oG p e below s n0 kc ks Q (T.setTop (mkF m pc L (.null :: S))) := by
  obtain ⟨locs, X, eT, N, hx, hby, hml, hZ, hown, hnm, hret, hlk, hn⟩ := H
  subst hp
  exact oG.go (fun t hr => XT.ifnonnullNo X.here hx rfl (hb hby hd) rfl hr) k
theorem o_acmp_t (H : oH p l e R s m args below meth c bc ml y rt Z n0 T h cells slots) {o : Int} {cd : ClassFile.ACond} {u w : Value} (hd : decode bc pc = .ok (.if_acmp cd o, 3)) (hu : u.isRef = true) (hw : w.isRef = true) (hc : XT.acmp cd u w = true) (ho : 0 ≤ (pc : Int) + o) (hp : ((pc : Int) + o).toNat = pt) (k : oG p e below s n0 kc ks Q (T.setTop (mkF m pt L S))) : oG p e below s n0 kc ks Q (T.setTop (mkF m pc L (w :: u :: S))) := by
  obtain ⟨locs, X, eT, N, hx, hby, hml, hZ, hown, hnm, hret, hlk, hn⟩ := H
  exact oG.go (fun t hr => XT.acmpYes X.here hx rfl rfl (hb hby hd) rfl hu hw hc ho hp hr) k
theorem o_acmp_f (H : oH p l e R s m args below meth c bc ml y rt Z n0 T h cells slots) {o : Int} {cd : ClassFile.ACond} {u w : Value} (hd : decode bc pc = .ok (.if_acmp cd o, 3)) (hu : u.isRef = true) (hw : w.isRef = true) (hc : XT.acmp cd u w = false) (hp : pc + 3 = pc') (k : oG p e below s n0 kc ks Q (T.setTop (mkF m pc' L S))) : oG p e below s n0 kc ks Q (T.setTop (mkF m pc L (w :: u :: S))) := by
  obtain ⟨locs, X, eT, N, hx, hby, hml, hZ, hown, hnm, hret, hlk, hn⟩ := H
  subst hp
  exact oG.go (fun t hr => XT.acmpNo X.here hx rfl (hb hby hd) rfl hu hw hc hr) k
theorem o_ldcI (H : oH p l e R s m args below meth c bc ml y rt Z n0 T h cells slots) {i : Nat} (v : Int32) (w : (Jvm.Cond.constant y.cls i v).before a0 Z = true) (hd : decode bc pc = .ok (.ldc i, 2)) (hp : pc + 2 = pc') (k : oG p e below s n0 kc ks Q (T.setTop (mkF m pc' L (.int v :: S)))) : oG p e below s n0 kc ks Q (T.setTop (mkF m pc L S)) := by
  obtain ⟨locs, X, eT, N, hx, hby, hml, hZ, hown, hnm, hret, hlk, hn⟩ := H
  subst hp
  exact oG.go (X.ldcInt hx hown (mvT hZ w) (g := mkF m pc L S) rfl (hb hby hd)) k
theorem o_ldcJ (H : oH p l e R s m args below meth c bc ml y rt Z n0 T h cells slots) {i : Nat} (v : Int64) (w : (Jvm.Cond.constantLong y.cls i v).before a0 Z = true) (hd : decode bc pc = .ok (.ldc2_w i, 3)) (hp : pc + 3 = pc') (k : oG p e below s n0 kc ks Q (T.setTop (mkF m pc' L (.long v :: S)))) : oG p e below s n0 kc ks Q (T.setTop (mkF m pc L S)) := by
  obtain ⟨locs, X, eT, N, hx, hby, hml, hZ, hown, hnm, hret, hlk, hn⟩ := H
  subst hp
  exact oG.go (X.ldc2Long hx hown (mvT hZ w) (g := mkF m pc L S) rfl (hb hby hd)) k
theorem o_ldcD (H : oH p l e R s m args below meth c bc ml y rt Z n0 T h cells slots) {i : Nat} (v : UInt64) (w : (Jvm.Cond.constantDouble y.cls i v).before a0 Z = true) (hd : decode bc pc = .ok (.ldc2_w i, 3)) (hp : pc + 3 = pc') (k : oG p e below s n0 kc ks Q (T.setTop (mkF m pc' L (.double v :: S)))) : oG p e below s n0 kc ks Q (T.setTop (mkF m pc L S)) := by
  obtain ⟨locs, X, eT, N, hx, hby, hml, hZ, hown, hnm, hret, hlk, hn⟩ := H
  subst hp
  exact oG.go (X.ldc2DoubleC hx hown (mvT hZ w) (g := mkF m pc L S) rfl (hb hby hd)) k
theorem o_ireturn (H : oH p l e R s m args below meth c bc ml y rt Z n0 T h cells slots) {z : Int32} (hrt : rt = some .int) (hd : decode bc pc = .ok (.ireturn, 1)) (hk : cells ≤ kc) (hs : slots ≤ ks) (q : Q (some (.int z)) h) : oG p e below s n0 kc ks Q (T.setTop (mkF m pc L (.int z :: S))) := by
  obtain ⟨locs, X, eT, N, hx, hby, hml, hZ, hown, hnm, hret, hlk, hn⟩ := H
  obtain ⟨fs, hr, hrun, hended, hW, hsame⟩ := X.leave (v := (some (.int z))) (fun hh => by first | rfl | (rw [hret, hrt] at hh; cases hh)) hlk
  refine ⟨_, _, retI X hx (hret.trans hrt) (hb hby hd) hr, hrun, hended, _, _, rfl, ⟨?_, N⟩, ⟨_, rfl⟩, hW, hsame.mono hk hs⟩
  show Q _ T.heap
  rw [eT]; exact q
theorem o_nreturn (H : oH p l e R s m args below meth c bc ml y rt Z n0 T h cells slots) {z : Int32} (t : FieldType) (hrt : rt = some t) (ht : t = .boolean ∨ t = .byte ∨ t = .char ∨ t = .short) (hd : decode bc pc = .ok (.ireturn, 1)) (hk : cells ≤ kc) (hs : slots ≤ ks) (q : Q (some (.int (nar t z))) h) : oG p e below s n0 kc ks Q (T.setTop (mkF m pc L (.int z :: S))) := by
  obtain ⟨locs, X, eT, N, hx, hby, hml, hZ, hown, hnm, hret, hlk, hn⟩ := H
  obtain ⟨fs, hr, hrun, hended, hW, hsame⟩ := X.leave (v := (some (.int (nar t z)))) (fun hh => by first | rfl | (rw [hret, hrt] at hh; cases hh)) hlk
  refine ⟨_, _, retN X hx (hret.trans hrt) ht (hb hby hd) hr, hrun, hended, _, _, rfl, ⟨?_, N⟩, ⟨_, rfl⟩, hW, hsame.mono hk hs⟩
  show Q _ T.heap
  rw [eT]; exact q
theorem o_lreturn (H : oH p l e R s m args below meth c bc ml y rt Z n0 T h cells slots) {z : Int64} (hrt : rt = some .long) (hd : decode bc pc = .ok (.lreturn, 1)) (hk : cells ≤ kc) (hs : slots ≤ ks) (q : Q (some (.long z)) h) : oG p e below s n0 kc ks Q (T.setTop (mkF m pc L (.long z :: S))) := by
  obtain ⟨locs, X, eT, N, hx, hby, hml, hZ, hown, hnm, hret, hlk, hn⟩ := H
  obtain ⟨fs, hr, hrun, hended, hW, hsame⟩ := X.leave (v := (some (.long z))) (fun hh => by first | rfl | (rw [hret, hrt] at hh; cases hh)) hlk
  refine ⟨_, _, retOut X hx (w := .long z) (i := .lreturn) (hret.trans hrt) rfl (Or.inr (Or.inl ⟨rfl, rfl, z, rfl⟩)) (hb hby hd) hr, hrun, hended, _, _, rfl, ⟨?_, N⟩, ⟨_, rfl⟩, hW, hsame.mono hk hs⟩
  show Q _ T.heap
  rw [eT]; exact q
theorem o_areturn (H : oH p l e R s m args below meth c bc ml y rt Z n0 T h cells slots) {v : Value} {t : FieldType} (hrt : rt = some t) (ht : t.isReference = true) (hv : v.isRef = true) (hna : narrow t v = v) (hd : decode bc pc = .ok (.areturn, 1)) (hk : cells ≤ kc) (hs : slots ≤ ks) (q : Q (some v) h) : oG p e below s n0 kc ks Q (T.setTop (mkF m pc L (v :: S))) := by
  obtain ⟨locs, X, eT, N, hx, hby, hml, hZ, hown, hnm, hret, hlk, hn⟩ := H
  obtain ⟨fs, hr, hrun, hended, hW, hsame⟩ := X.leave (v := (some v)) (fun hh => by first | rfl | (rw [hret, hrt] at hh; cases hh)) hlk
  refine ⟨_, _, retOut X hx (w := v) (i := .areturn) (hret.trans hrt) hna (Or.inr (Or.inr (Or.inr (Or.inr ⟨rfl, ht, hv⟩)))) (hb hby hd) hr, hrun, hended, _, _, rfl, ⟨?_, N⟩, ⟨_, rfl⟩, hW, hsame.mono hk hs⟩
  show Q _ T.heap
  rw [eT]; exact q
theorem o_return (H : oH p l e R s m args below meth c bc ml y rt Z n0 T h cells slots)  (hrt : rt = none) (hd : decode bc pc = .ok (.return_, 1)) (hk : cells ≤ kc) (hs : slots ≤ ks) (q : Q none h) : oG p e below s n0 kc ks Q (T.setTop (mkF m pc L [])) := by
  obtain ⟨locs, X, eT, N, hx, hby, hml, hZ, hown, hnm, hret, hlk, hn⟩ := H
  obtain ⟨fs, hr, hrun, hended, hW, hsame⟩ := X.leave (v := none) (fun hh => by first | rfl | (rw [hret, hrt] at hh; cases hh)) hlk
  refine ⟨_, _, X.returnOut hx (hret.trans hrt) (hb hby hd) hr, hrun, hended, _, _, rfl, ⟨?_, N⟩, ⟨_, rfl⟩, hW, hsame.mono hk hs⟩
  show Q _ T.heap
  rw [eT]; exact q
theorem o_new (H : oH p l e R s m args below meth c bc ml y rt Z n0 T h cells slots) {i nn : Nat} {C : String} (w : (Jvm.Cond.classLink y.cls i C).before a0 Z = true) (wi : (Jvm.Cond.instantiable C nn).before a0 Z = true) (wz : (Jvm.Cond.initialized C).before a0 Z = true) (hd : decode bc pc = .ok (.new i, 3)) (hp : pc + 3 = pc') (hc : cells + 1 ≤ R.cells) (hl : slots + nn ≤ R.slots)
    (k : ∀ (T' : State) (h' : Heap) (a : Addr), a = h.size → oH p l e R s m args below meth c bc ml y rt Z n0 T' h' (cells + 1) (slots + nn) → Ext h h' → Exa Z h' a C → (∀ {O nm d : String} {ty : FieldType}, Laid Z a0 C O nm d → parseFieldDescriptor d = some ty → Fld Z h' a O nm d (defaultValue ty)) → oG p e below s n0 kc ks Q (T'.setTop (mkF m pc' L (.ref a :: S)))) : oG p e below s n0 kc ks Q (T.setTop (mkF m pc L S)) := by
  obtain ⟨locs, X, eT, N, hx, hby, hml, hZ, hown, hnm, hret, hlk, hn⟩ := H
  subst hp
  obtain ⟨T', h', X', e', E, A, D, -, st⟩ := newO X hx hZ hown w wi wz eT (g := mkF m pc L S) rfl (hb hby hd) hc hl
  exact oG.go st (k T' h' _ rfl ⟨locs, X', e', N, hx, hby, hml, hZ, hown, hnm, hret, hlk, hn⟩ E A (fun La ht => D La ht))
theorem o_initO (H : oH p l e R s m args below meth c bc ml y rt Z n0 T h cells slots) {i : Nat} {a : Addr} (w1 : (Jvm.Cond.methodLink y.cls i Lib.objectInit).before a0 Z = true) (w2 : (Jvm.Cond.instanceMethod Lib.objectInit).before a0 Z = true) (w3 : (Jvm.Cond.code Lib.objectInit ⟨#[0xb1]⟩ 1 none).before a0 Z = true) (hd : decode bc pc = .ok (.invokespecial i, 3)) (hp : pc + 3 = pc') (hsz : L.size = ml) (hf : 1 ≤ R.frames) (hlo : (S.map fun v => v.category).sum + 12 ≤ R.locals)
    (k : ∀ (T' : State), oH p l e R s m args below meth c bc ml y rt Z n0 T' h cells slots → oG p e below s n0 kc ks Q (T'.setTop (mkF m pc' L S))) : oG p e below s n0 kc ks Q (T.setTop (mkF m pc L (.ref a :: S))) := by
  obtain ⟨locs, X, eT, N, hx, hby, hml, hZ, hown, hnm, hret, hlk, hn⟩ := H
  subst hp
  obtain ⟨T', X', e', st⟩ := initO X hx hZ hown w1 w2 w3 eT (g := mkF m pc L (.ref a :: S)) rfl (by rw [hml]; exact hsz) rfl (hb hby hd) hf (W := (S.map fun v => v.category).sum) (by show 2 * 0 + _ ≤ _; omega) hlo
  exact oG.go st (k T' ⟨locs, X', e', N, hx, hby, hml, hZ, hown, hnm, hret, hlk, hn⟩)
theorem o_getF (H : oH p l e R s m args below meth c bc ml y rt Z n0 T h cells slots) {i : Nat} {a : Addr} {C f d host : String} {v : Value} (w : (Jvm.Cond.fieldLink y.cls i C f d).before a0 Z = true ∨ (Jvm.Cond.fieldLinkNest y.cls i C f d host).before a0 Z = true) (F : Fld Z h a C f d v) (hd : decode bc pc = .ok (.getfield i, 3)) (hp : pc + 3 = pc')
    (k : ∀ (T' : State), oH p l e R s m args below meth c bc ml y rt Z n0 T' h cells slots → oG p e below s n0 kc ks Q (T'.setTop (mkF m pc' L (v :: S)))) : oG p e below s n0 kc ks Q (T.setTop (mkF m pc L (.ref a :: S))) := by
  obtain ⟨locs, X, eT, N, hx, hby, hml, hZ, hown, hnm, hret, hlk, hn⟩ := H
  subst hp
  obtain ⟨T', X', e', st⟩ := getF X hx hZ hown (host := host) w Via.refl eT F (g := mkF m pc L (.ref a :: S)) rfl rfl (hb hby hd)
  exact oG.go st (k T' ⟨locs, X', e', N, hx, hby, hml, hZ, hown, hnm, hret, hlk, hn⟩)
theorem o_putF (H : oH p l e R s m args below meth c bc ml y rt Z n0 T h cells slots) {i kk : Nat} {a : Addr} {C K f d host : String} {v old : Value} {ty : FieldType} (w : (Jvm.Cond.fieldLink y.cls i C f d).before a0 Z = true ∨ (Jvm.Cond.fieldLinkNest y.cls i C f d host).before a0 Z = true) (F : Fld Z h a C f d old) (E : Exa Z h a K) (wl : (Jvm.Cond.lays K C f d).before a0 Z = true ∨ ((Jvm.Cond.laysFinal K C f d).before a0 Z = true ∧ y.cls = C ∧ y.name = "<init>")) (wi : (Jvm.Cond.instantiable K kk).before a0 Z = true) (hty : parseFieldDescriptor d = some ty) (hna : narrow ty v = v) (hft : fits ty v = true) (ha : n0 ≤ a) (hd : decode bc pc = .ok (.putfield i, 3)) (hp : pc + 3 = pc')
    (k : ∀ (T' : State) (h' : Heap), oH p l e R s m args below meth c bc ml y rt Z n0 T' h' cells slots → Wr h h' a (Jvm.RoadKit.slotOf Z C f d) v → oG p e below s n0 kc ks Q (T'.setTop (mkF m pc' L S))) : oG p e below s n0 kc ks Q (T.setTop (mkF m pc L (v :: .ref a :: S))) := by
  obtain ⟨locs, X, eT, N, hx, hby, hml, hZ, hown, hnm, hret, hlk, hn⟩ := H
  subst hp
  obtain ⟨T', h', X', e', W, st⟩ := putF X hx hZ hown (host := host) w Via.refl eT F E (wl.imp id fun q => ⟨q.1, q.2.1, hnm.trans q.2.2⟩) wi hty hna hft (g := mkF m pc L (v :: .ref a :: S)) rfl rfl (hb hby hd)
  exact oG.go st (k T' h' ⟨_, X', e', Fr.snoc X' N ha, hx, hby, hml, hZ, hown, hnm, hret, hlk, hn⟩ W)
theorem o_putFN (H : oH p l e R s m args below meth c bc ml y rt Z n0 T h cells slots) {i kk : Nat} {a : Addr} {C K f d : String} {v v' old : Value} {ty : FieldType} (w : (Jvm.Cond.fieldLink y.cls i C f d).before a0 Z = true) (F : Fld Z h a C f d old) (E : Exa Z h a K) (wl : (Jvm.Cond.lays K C f d).before a0 Z = true ∨ ((Jvm.Cond.laysFinal K C f d).before a0 Z = true ∧ y.cls = C ∧ y.name = "<init>")) (wi : (Jvm.Cond.instantiable K kk).before a0 Z = true) (hty : parseFieldDescriptor d = some ty) (hna : narrow ty v = v') (hft : fits ty v' = true) (ha : n0 ≤ a) (hd : decode bc pc = .ok (.putfield i, 3)) (hp : pc + 3 = pc')
    (k : ∀ (T' : State) (h' : Heap), oH p l e R s m args below meth c bc ml y rt Z n0 T' h' cells slots → Wr h h' a (Jvm.RoadKit.slotOf Z C f d) v' → oG p e below s n0 kc ks Q (T'.setTop (mkF m pc' L S))) : oG p e below s n0 kc ks Q (T.setTop (mkF m pc L (v :: .ref a :: S))) := by
  obtain ⟨locs, X, eT, N, hx, hby, hml, hZ, hown, hnm, hret, hlk, hn⟩ := H
  subst hp
  obtain ⟨T', h', X', e', W, st⟩ := putFN X hx hZ hown w Via.refl eT F E (wl.imp id fun q => ⟨q.1, q.2.1, hnm.trans q.2.2⟩) wi hty hna hft (g := mkF m pc L (v :: .ref a :: S)) rfl rfl (hb hby hd)
  exact oG.go st (k T' h' ⟨_, X', e', Fr.snoc X' N ha, hx, hby, hml, hZ, hown, hnm, hret, hlk, hn⟩ W)
theorem o_getS (H : oH p l e R s m args below meth c bc ml y rt Z n0 T h cells slots) {i : Nat} {C f d host : String} {v : Value} (w : (Jvm.Cond.fieldLink y.cls i C f d).before a0 Z = true ∨ (Jvm.Cond.fieldLinkNest y.cls i C f d host).before a0 Z = true) (F : Sta Z h C f d v) (hd : decode bc pc = .ok (.getstatic i, 3)) (hp : pc + 3 = pc')
    (k : ∀ (T' : State), oH p l e R s m args below meth c bc ml y rt Z n0 T' h cells slots → oG p e below s n0 kc ks Q (T'.setTop (mkF m pc' L (v :: S)))) : oG p e below s n0 kc ks Q (T.setTop (mkF m pc L S)) := by
  obtain ⟨locs, X, eT, N, hx, hby, hml, hZ, hown, hnm, hret, hlk, hn⟩ := H
  subst hp
  obtain ⟨T', X', e', st⟩ := getS2 X hx hZ hown (host := host) w Via.refl eT F (g := mkF m pc L S) rfl (hb hby hd)
  exact oG.go st (k T' ⟨locs, X', e', N, hx, hby, hml, hZ, hown, hnm, hret, hlk, hn⟩)
theorem o_instY (H : oH p l e R s m args below meth c bc ml y rt Z n0 T h cells slots) {i : Nat} {a : Addr} {K : String} (w : (Jvm.Cond.classLink y.cls i K).before a0 Z = true) (I : Ins Z h a K true) (hd : decode bc pc = .ok (.instanceof i, 3)) (hp : pc + 3 = pc') (k : ∀ (T' : State), oH p l e R s m args below meth c bc ml y rt Z n0 T' h cells slots → oG p e below s n0 kc ks Q (T'.setTop (mkF m pc' L (.int 1 :: S)))) : oG p e below s n0 kc ks Q (T.setTop (mkF m pc L (.ref a :: S))) := by
  obtain ⟨locs, X, eT, N, hx, hby, hml, hZ, hown, hnm, hret, hlk, hn⟩ := H
  subst hp
  obtain ⟨T', X', e', st⟩ := instY X hx hZ hown w eT I (g := mkF m pc L (.ref a :: S)) rfl rfl (hb hby hd)
  exact oG.go st (k T' ⟨locs, X', e', N, hx, hby, hml, hZ, hown, hnm, hret, hlk, hn⟩)
theorem o_castY (H : oH p l e R s m args below meth c bc ml y rt Z n0 T h cells slots) {i : Nat} {a : Addr} {K : String} (w : (Jvm.Cond.classLink y.cls i K).before a0 Z = true) (I : Ins Z h a K true) (hd : decode bc pc = .ok (.checkcast i, 3)) (hp : pc + 3 = pc') (k : ∀ (T' : State), oH p l e R s m args below meth c bc ml y rt Z n0 T' h cells slots → oG p e below s n0 kc ks Q (T'.setTop (mkF m pc' L (.ref a :: S)))) : oG p e below s n0 kc ks Q (T.setTop (mkF m pc L (.ref a :: S))) := by
  obtain ⟨locs, X, eT, N, hx, hby, hml, hZ, hown, hnm, hret, hlk, hn⟩ := H
  subst hp
  obtain ⟨T', X', e', st⟩ := castY X hx hZ hown w eT I (g := mkF m pc L (.ref a :: S)) rfl rfl (hb hby hd)
  exact oG.go st (k T' ⟨locs, X', e', N, hx, hby, hml, hZ, hown, hnm, hret, hlk, hn⟩)
theorem o_instNo (H : oH p l e R s m args below meth c bc ml y rt Z n0 T h cells slots) {i : Nat} {a : Addr} {C K : String} (w : (Jvm.Cond.classLink y.cls i K).before a0 Z = true) (E : Exa Z h a C) (F : ∃ c t, Z.vm.findClass C = some c ∧ Z.vm.findClass K = some t ∧ Z.vm.assignable c t = false) (hd : decode bc pc = .ok (.instanceof i, 3)) (hp : pc + 3 = pc') (k : ∀ (T' : State), oH p l e R s m args below meth c bc ml y rt Z n0 T' h cells slots → oG p e below s n0 kc ks Q (T'.setTop (mkF m pc' L (.int 0 :: S)))) : oG p e below s n0 kc ks Q (T.setTop (mkF m pc L (.ref a :: S))) := by
  obtain ⟨locs, X, eT, N, hx, hby, hml, hZ, hown, hnm, hret, hlk, hn⟩ := H
  subst hp
  obtain ⟨T', X', e', st⟩ := instNo X hx hZ hown w eT E F (g := mkF m pc L (.ref a :: S)) rfl rfl (hb hby hd)
  exact oG.go st (k T' ⟨locs, X', e', N, hx, hby, hml, hZ, hown, hnm, hret, hlk, hn⟩)
theorem o_instNull (H : oH p l e R s m args below meth c bc ml y rt Z n0 T h cells slots) {i : Nat} (hd : decode bc pc = .ok (.instanceof i, 3)) (hp : pc + 3 = pc') (k : oG p e below s n0 kc ks Q (T.setTop (mkF m pc' L (.int 0 :: S)))) : oG p e below s n0 kc ks Q (T.setTop (mkF m pc L (.null :: S))) := by
  obtain ⟨locs, X, eT, N, hx, hby, hml, hZ, hown, hnm, hret, hlk, hn⟩ := H
  subst hp
  exact oG.go (X.instanceofNull hx (g := mkF m pc L (.null :: S)) rfl rfl (hb hby hd)) k
theorem o_aaloadC (H : oH p l e R s m args below meth c bc ml y rt Z n0 T h cells slots) {a : Addr} {j : Int32} {cl : Cell} {ty : FieldType} (v : Value) (A : Arr Z h a cl ty) (hty : ty.isReference = true) (hin : ¬ (j < 0 ∨ cl.slots.size ≤ j.toNatClampNeg)) (hv : cl.slots[j.toNatClampNeg]? = some v) (hd : decode bc pc = .ok (.aaload, 1)) (hp : pc + 1 = pc') (k : oG p e below s n0 kc ks Q (T.setTop (mkF m pc' L (v :: S)))) : oG p e below s n0 kc ks Q (T.setTop (mkF m pc L (.int j :: .ref a :: S))) := by
  obtain ⟨locs, X, eT, N, hx, hby, hml, hZ, hown, hnm, hret, hlk, hn⟩ := H
  subst hp
  exact oG.go (fun t hr => X.aaload hx (j := j) (v := v) (by rw [eT]; exact A.1) (State.isArrayOf_alike hZ.alike A.2.1) hty A.2.2 hin hv (g := mkF m pc L (.int j :: .ref a :: S)) rfl rfl (hb hby hd) t hr) k
theorem o_kext {h' : Heap} (K : Keep h h' []) : Ext h h' := ⟨K.1, fun a c q => K.2.1 a c q nin0⟩
theorem o_etrans {h' h'' : Heap} (E : Ext h h') (E' : Ext h' h'') : Ext h h'' := ⟨Nat.le_trans E.1 E'.1, fun a c q => E'.2 a c (E.2 a c q)⟩
/-- C's chain of superclasses, ended by O, meets no class that can be made of the name K -/
theorem o_noSub {C K : String} {n : Nat} (wk : (Jvm.Cond.instantiable K n).before a0 Z = true) (kd : ∃ c k, Z.vm.findClass C = some c ∧ Z.vm.classes[c]? = some k ∧ k.kind = .ordinary) (hn : C ≠ K) (nf : ∀ c t, Z.vm.findClass C = some c → Z.vm.findClass K = some t → ∀ fuel, Z.vm.isSubclassAux fuel c t = false) : ∃ c t, Z.vm.findClass C = some c ∧ Z.vm.findClass K = some t ∧ Z.vm.assignable c t = false := by
  obtain ⟨c, k, h1, h2, h3⟩ := kd
  obtain ⟨t, kt, g1, g2, g3, g4, -⟩ := Cond.instantiable_spec wk
  have ne := ids_ne h1 g1 hn
  have g5 : kt.isInterface = false := (Bool.or_eq_false_iff.mp g4).1
  refine ⟨c, t, h1, g1, ?_⟩
  show Z.vm.assignableAux (255 + 1) c t = false
  simp [Vm.assignableAux, ne, h2, g2, h3, g3, g5, Vm.isSubclass, nf c t h1 g1]
theorem o_subRoot {O K : String} {n : Nat} (w : (Jvm.Cond.noSuperclass O).before a0 Z = true) (wk : (Jvm.Cond.instantiable K n).before a0 Z = true) (hn : O ≠ K) : NS Z O K := by
  obtain ⟨c, k, h1, h2, h3, -, -⟩ := Cond.noSuperclass_spec w
  obtain ⟨t, kt, g1, g2, g3, g4, -⟩ := Cond.instantiable_spec wk
  have ne := ids_ne h1 g1 hn
  refine ⟨c, t, h1, g1, fun fuel => ?_⟩
  cases fuel with
  | zero => rfl
  | succ f => simp [Vm.isSubclassAux, ne, h2, h3]
theorem o_ns {C S' K : String} {n : Nat} (w : (Jvm.Cond.superclass C S').before a0 Z = true) (wk : (Jvm.Cond.instantiable K n).before a0 Z = true) (N : NS Z C K) (hn : C ≠ K) : ∃ c t, Z.vm.findClass C = some c ∧ Z.vm.findClass K = some t ∧ Z.vm.assignable c t = false := by
  obtain ⟨c, h0⟩ := found_sup w
  obtain ⟨p, k, kp, h1, h2, h3, h4, h5, -, h7⟩ := Cond.superclass_spec h0 w
  refine o_noSub wk ⟨c, k, h0, h2, h5⟩ hn fun c' t' q1 q2 => ?_
  obtain ⟨c1, t1, r1, r2, r3⟩ := N
  cases r1.symm.trans q1
  cases r2.symm.trans q2
  exact r3
/-- an array, by the list of what it holds -/
def oA (ty : FieldType) (Z : State) (h : Heap) (a : Addr) (vs : List Value) : Prop := vs.length < 2 ^ 31 ∧ ∃ cl : Cell, Arr Z h a cl ty ∧ cl.slots = vs.toArray
theorem oA.ext {ty : FieldType} {h' : Heap} {a : Addr} {vs : List Value} (A : oA ty Z h a vs) (E : Ext h h') : oA ty Z h' a vs := by
  obtain ⟨q, cl, A, r⟩ := A; exact ⟨q, cl, A.ext E, r⟩
theorem oA.other {ty : FieldType} {h' : Heap} {a b : Addr} {sl : Nat} {v : Value} {vs : List Value} (A : oA ty Z h b vs) (W : Wr h h' a sl v) (ne : b ≠ a) : oA ty Z h' b vs := by
  obtain ⟨q, cl, A, r⟩ := A; exact ⟨q, cl, A.other W ne, r⟩
theorem oA.keep {ty : FieldType} {h' : Heap} {a : Addr} {ws : List Addr} {vs : List Value} (A : oA ty Z h a vs) (K : Keep h h' ws) (ne : a ∉ ws) : oA ty Z h' a vs := by
  obtain ⟨q, cl, A, r⟩ := A; exact ⟨q, cl, ⟨K.2.1 a cl A.1 ne, A.2⟩, r⟩
theorem oA.lt {ty : FieldType} {a : Addr} {vs : List Value} (A : oA ty Z h a vs) : a < h.size := by
  obtain ⟨q, cl, A, r⟩ := A; exact A.lt
theorem oA.same {ty : FieldType} {h' : Heap} {a : Addr} {j : Nat} {v : Value} {vs : List Value} (A : oA ty Z h a vs) (W : Wr h h' a j v) : oA ty Z h' a (vs.set j v) := by
  obtain ⟨q, cl, A, r⟩ := A
  refine ⟨by rw [List.length_set]; exact q, _, A.same W, ?_⟩
  show cl.slots.setIfInBounds j v = _
  rw [r, List.setIfInBounds_toArray]
theorem o_inb {cl : Cell} {vs : List Value} {j : Int32} {i : Nat} (r : cl.slots = vs.toArray) (h0 : j.toInt = (i : Int)) (h1 : i < vs.length) : ¬ (j < 0 ∨ cl.slots.size ≤ j.toNatClampNeg) := by
  have e0 : (0 : Int32).toInt = 0 := rfl
  have e1 : cl.slots.size = vs.length := by rw [r]; simp
  rw [Int32.lt_iff_toInt_lt, e0, e1]
  simp only [Int32.toNatClampNeg]; omega
theorem o_nat {j : Int32} {i : Nat} (h0 : j.toInt = (i : Int)) : j.toNatClampNeg = i := by
  simp only [Int32.toNatClampNeg]; omega
theorem o_elt {cl : Cell} {vs : List Value} {j : Int32} {i : Nat} {v : Value} (r : cl.slots = vs.toArray) (h0 : j.toInt = (i : Int)) (hv : vs[i]? = some v) : cl.slots[j.toNatClampNeg]? = some v := by
  rw [r, o_nat h0]; simpa using hv
theorem o_lt_of {vs : List Value} {i : Nat} {v : Value} (hv : vs[i]? = some v) : i < vs.length := (List.getElem?_eq_some_iff.mp hv).1
theorem o_newarr (H : oH p l e R s m args below meth c bc ml y rt Z n0 T h cells slots) {aty : ArrayType} {z : Int32} (cap n : Nat) (w : (Jvm.Cond.arrayClass (newarray.typeOf aty)).before a0 Z = true) (hz : z.toInt = (n : Int)) (hcap : n ≤ cap) (hb8 : cap * 8 ≤ 536870912) (hd : decode bc pc = .ok (.newarray aty, 2)) (hp : pc + 2 = pc') (hc : cells + 1 ≤ R.cells) (hl : slots + cap ≤ R.slots)
    (k : ∀ (T' : State) (h' : Heap) (a : Addr), a = h.size → oH p l e R s m args below meth c bc ml y rt Z n0 T' h' (cells + 1) (slots + cap) → Ext h h' → oA (newarray.typeOf aty) Z h' a (List.replicate n (defaultValue (newarray.typeOf aty))) → oG p e below s n0 kc ks Q (T'.setTop (mkF m pc' L (.ref a :: S)))) : oG p e below s n0 kc ks Q (T.setTop (mkF m pc L (.int z :: S))) := by
  obtain ⟨locs, X, eT, N, hx, hby, hml, hZ, hown, hnm, hret, hlk, hn⟩ := H
  subst hp
  have e0 : (0 : Int32).toInt = 0 := rfl
  obtain ⟨T', h', kk, X', e', E, A, st⟩ := newP X hx hZ w eT (g := mkF m pc L (.int z :: S)) rfl (hb hby hd) rfl (by rw [Int32.lt_iff_toInt_lt, e0]; omega) (cap := cap) (by simp only [Int32.toNatClampNeg]; omega) hb8 hc hl
  refine oG.go st (k T' h' _ rfl ⟨locs, X', e', N, hx, hby, hml, hZ, hown, hnm, hret, hlk, hn⟩ E ⟨?_, _, A, ?_⟩)
  · have := Int32.toInt_lt z
    rw [List.length_replicate]; omega
  · show Array.replicate z.toNatClampNeg _ = _
    rw [o_nat hz, ← List.toArray_replicate]
theorem o_newarrE (H : oH p l e R s m args below meth c bc ml y rt Z n0 T h cells slots) {aty : ArrayType} {z : Int32} (cap n : Nat) (w : (Jvm.Cond.arrayClass (newarray.typeOf aty)).before a0 Z = true) (hz : z.toInt = (n : Int)) (hcap : n ≤ cap) (hb8 : cap * 8 ≤ 536870912) (hd : decode bc pc = .ok (.newarray aty, 2)) (hp : pc + 2 = pc') (hc : cells + 1 ≤ R.cells) (hl : slots + cap ≤ R.slots) {ad : String} (had : "[" ++ (newarray.typeOf aty).toString = ad)
    (k : ∀ (T' : State) (h' : Heap) (a : Addr), a = h.size → oH p l e R s m args below meth c bc ml y rt Z n0 T' h' (cells + 1) (slots + cap) → Ext h h' → oA (newarray.typeOf aty) Z h' a (List.replicate n (defaultValue (newarray.typeOf aty))) → Exa Z h' a ad → oG p e below s n0 kc ks Q (T'.setTop (mkF m pc' L (.ref a :: S)))) : oG p e below s n0 kc ks Q (T.setTop (mkF m pc L (.int z :: S))) := by
  obtain ⟨locs, X, eT, N, hx, hby, hml, hZ, hown, hnm, hret, hlk, hn⟩ := H
  subst hp
  have e0 : (0 : Int32).toInt = 0 := rfl
  obtain ⟨T', h', kk, X', e', E, A, EE, st⟩ := newPE X hx hZ w eT (g := mkF m pc L (.int z :: S)) rfl (hb hby hd) rfl (by rw [Int32.lt_iff_toInt_lt, e0]; omega) (cap := cap) (by simp only [Int32.toNatClampNeg]; omega) hb8 hc hl had
  refine oG.go st (k T' h' _ rfl ⟨locs, X', e', N, hx, hby, hml, hZ, hown, hnm, hret, hlk, hn⟩ E ⟨?_, _, A, ?_⟩ EE)
  · have := Int32.toInt_lt z
    rw [List.length_replicate]; omega
  · show Array.replicate z.toNatClampNeg _ = _
    rw [o_nat hz, ← List.toArray_replicate]
theorem o_iaload (H : oH p l e R s m args below meth c bc ml y rt Z n0 T h cells slots) {a : Addr} {j : Int32} {vs : List Value} (i : Nat) (v : Value) (A : oA .int Z h a vs) (h0 : j.toInt = (i : Int)) (hv : vs[i]? = some v) (hd : decode bc pc = .ok (.iaload, 1)) (hp : pc + 1 = pc') (k : oG p e below s n0 kc ks Q (T.setTop (mkF m pc' L (v :: S)))) : oG p e below s n0 kc ks Q (T.setTop (mkF m pc L (.int j :: .ref a :: S))) := by
  obtain ⟨locs, X, eT, N, hx, hby, hml, hZ, hown, hnm, hret, hlk, hn⟩ := H
  subst hp
  obtain ⟨-, cl, A, r⟩ := A
  exact oG.go (fun t hr => X.iaload hx (j := j) (v := v) (by rw [eT]; exact A.1) (State.isArrayOf_alike hZ.alike A.2.1) A.2.2 (o_inb r h0 (o_lt_of hv)) (o_elt r h0 hv) (g := mkF m pc L (.int j :: .ref a :: S)) rfl rfl (hb hby hd) t hr) k
theorem o_caload (H : oH p l e R s m args below meth c bc ml y rt Z n0 T h cells slots) {a : Addr} {j : Int32} {vs : List Value} (i : Nat) (v : Value) (A : oA .char Z h a vs) (h0 : j.toInt = (i : Int)) (hv : vs[i]? = some v) (hd : decode bc pc = .ok (.caload, 1)) (hp : pc + 1 = pc') (k : oG p e below s n0 kc ks Q (T.setTop (mkF m pc' L (v :: S)))) : oG p e below s n0 kc ks Q (T.setTop (mkF m pc L (.int j :: .ref a :: S))) := by
  obtain ⟨locs, X, eT, N, hx, hby, hml, hZ, hown, hnm, hret, hlk, hn⟩ := H
  subst hp
  obtain ⟨-, cl, A, r⟩ := A
  exact oG.go (fun t hr => X.caload hx (j := j) (v := v) (by rw [eT]; exact A.1) (State.isArrayOf_alike hZ.alike A.2.1) A.2.2 (o_inb r h0 (o_lt_of hv)) (o_elt r h0 hv) (g := mkF m pc L (.int j :: .ref a :: S)) rfl rfl (hb hby hd) t hr) k
theorem o_baload (H : oH p l e R s m args below meth c bc ml y rt Z n0 T h cells slots) {a : Addr} {j : Int32} {vs : List Value} (i : Nat) (v : Value) (A : oA .byte Z h a vs) (h0 : j.toInt = (i : Int)) (hv : vs[i]? = some v) (hd : decode bc pc = .ok (.baload, 1)) (hp : pc + 1 = pc') (k : oG p e below s n0 kc ks Q (T.setTop (mkF m pc' L (v :: S)))) : oG p e below s n0 kc ks Q (T.setTop (mkF m pc L (.int j :: .ref a :: S))) := by
  obtain ⟨locs, X, eT, N, hx, hby, hml, hZ, hown, hnm, hret, hlk, hn⟩ := H
  subst hp
  obtain ⟨-, cl, A, r⟩ := A
  exact oG.go (fun t hr => X.baloadBytes hx (j := j) (v := v) (by rw [eT]; exact A.1) (State.isArrayOf_alike hZ.alike A.2.1) A.2.2 (o_inb r h0 (o_lt_of hv)) (o_elt r h0 hv) (g := mkF m pc L (.int j :: .ref a :: S)) rfl rfl (hb hby hd) t hr) k
theorem o_laload (H : oH p l e R s m args below meth c bc ml y rt Z n0 T h cells slots) {a : Addr} {j : Int32} {vs : List Value} (i : Nat) (v : Value) (A : oA .long Z h a vs) (h0 : j.toInt = (i : Int)) (hv : vs[i]? = some v) (hd : decode bc pc = .ok (.laload, 1)) (hp : pc + 1 = pc') (k : oG p e below s n0 kc ks Q (T.setTop (mkF m pc' L (v :: S)))) : oG p e below s n0 kc ks Q (T.setTop (mkF m pc L (.int j :: .ref a :: S))) := by
  obtain ⟨locs, X, eT, N, hx, hby, hml, hZ, hown, hnm, hret, hlk, hn⟩ := H
  subst hp
  obtain ⟨-, cl, A, r⟩ := A
  exact oG.go (fun t hr => X.laload hx (j := j) (v := v) (by rw [eT]; exact A.1) (State.isArrayOf_alike hZ.alike A.2.1) A.2.2 (o_inb r h0 (o_lt_of hv)) (o_elt r h0 hv) (g := mkF m pc L (.int j :: .ref a :: S)) rfl rfl (hb hby hd) t hr) k
theorem o_arraylength (H : oH p l e R s m args below meth c bc ml y rt Z n0 T h cells slots) {a : Addr} {ty : FieldType} {vs : List Value} (z : Int32) (A : oA ty Z h a vs) (hz : vs.length.toInt32 = z) (hd : decode bc pc = .ok (.arraylength, 1)) (hp : pc + 1 = pc') (k : oG p e below s n0 kc ks Q (T.setTop (mkF m pc' L (.int z :: S)))) : oG p e below s n0 kc ks Q (T.setTop (mkF m pc L (.ref a :: S))) := by
  obtain ⟨locs, X, eT, N, hx, hby, hml, hZ, hown, hnm, hret, hlk, hn⟩ := H
  subst hp
  obtain ⟨-, cl, A, r⟩ := A
  have e1 : cl.slots.size.toInt32 = z := by rw [← hz, r]; simp
  exact oG.go (fun t hr => X.arraylength hx (by rw [eT]; exact A.1) (State.isArrayOf_alike hZ.alike A.2.1) (g := mkF m pc L (.ref a :: S)) rfl rfl (hb hby hd) t (by rw [e1]; exact hr)) k
theorem o_iastore (H : oH p l e R s m args below meth c bc ml y rt Z n0 T h cells slots) {a : Addr} {j : Int32} {z : Int32} {vs : List Value} (i : Nat) (A : oA .int Z h a vs) (h0 : j.toInt = (i : Int)) (h1 : i < vs.length) (ha : n0 ≤ a) (hd : decode bc pc = .ok (.iastore, 1)) (hp : pc + 1 = pc')
    (k : ∀ (T' : State) (h' : Heap), oH p l e R s m args below meth c bc ml y rt Z n0 T' h' cells slots → Wr h h' a i (.int z) → oA .int Z h' a (vs.set i (.int z)) → oG p e below s n0 kc ks Q (T'.setTop (mkF m pc' L S))) : oG p e below s n0 kc ks Q (T.setTop (mkF m pc L (.int z :: .int j :: .ref a :: S))) := by
  obtain ⟨locs, X, eT, N, hx, hby, hml, hZ, hown, hnm, hret, hlk, hn⟩ := H
  subst hp
  have A' := A
  obtain ⟨-, cl, A, r⟩ := A
  obtain ⟨T', h', X', e', W, st⟩ := stI X hx hZ eT A (j := j) (o_inb r h0 h1) (g := mkF m pc L (.int z :: .int j :: .ref a :: S)) rfl rfl (hb hby hd)
  have en := o_nat h0
  have W2 : Wr h h' a i _ := en ▸ W
  exact oG.go st (k T' h' ⟨_, X', e', Fr.snoc X' N ha, hx, hby, hml, hZ, hown, hnm, hret, hlk, hn⟩ W2 (A'.same W2))
theorem o_castore (H : oH p l e R s m args below meth c bc ml y rt Z n0 T h cells slots) {a : Addr} {j : Int32} {z : Int32} {vs : List Value} (i : Nat) (A : oA .char Z h a vs) (h0 : j.toInt = (i : Int)) (h1 : i < vs.length) (ha : n0 ≤ a) (hd : decode bc pc = .ok (.castore, 1)) (hp : pc + 1 = pc')
    (k : ∀ (T' : State) (h' : Heap), oH p l e R s m args below meth c bc ml y rt Z n0 T' h' cells slots → Wr h h' a i (.int (nar .char z)) → oA .char Z h' a (vs.set i (.int (nar .char z))) → oG p e below s n0 kc ks Q (T'.setTop (mkF m pc' L S))) : oG p e below s n0 kc ks Q (T.setTop (mkF m pc L (.int z :: .int j :: .ref a :: S))) := by
  obtain ⟨locs, X, eT, N, hx, hby, hml, hZ, hown, hnm, hret, hlk, hn⟩ := H
  subst hp
  have A' := A
  obtain ⟨-, cl, A, r⟩ := A
  obtain ⟨T', h', X', e', W, st⟩ := stC X hx hZ eT A (j := j) (o_inb r h0 h1) (g := mkF m pc L (.int z :: .int j :: .ref a :: S)) rfl rfl (hb hby hd)
  have en := o_nat h0
  have W2 : Wr h h' a i _ := en ▸ W
  exact oG.go st (k T' h' ⟨_, X', e', Fr.snoc X' N ha, hx, hby, hml, hZ, hown, hnm, hret, hlk, hn⟩ W2 (A'.same W2))
theorem o_bastore (H : oH p l e R s m args below meth c bc ml y rt Z n0 T h cells slots) {a : Addr} {j : Int32} {z : Int32} {vs : List Value} (i : Nat) (A : oA .byte Z h a vs) (h0 : j.toInt = (i : Int)) (h1 : i < vs.length) (ha : n0 ≤ a) (hd : decode bc pc = .ok (.bastore, 1)) (hp : pc + 1 = pc')
    (k : ∀ (T' : State) (h' : Heap), oH p l e R s m args below meth c bc ml y rt Z n0 T' h' cells slots → Wr h h' a i (.int (nar .byte z)) → oA .byte Z h' a (vs.set i (.int (nar .byte z))) → oG p e below s n0 kc ks Q (T'.setTop (mkF m pc' L S))) : oG p e below s n0 kc ks Q (T.setTop (mkF m pc L (.int z :: .int j :: .ref a :: S))) := by
  obtain ⟨locs, X, eT, N, hx, hby, hml, hZ, hown, hnm, hret, hlk, hn⟩ := H
  subst hp
  have A' := A
  obtain ⟨-, cl, A, r⟩ := A
  obtain ⟨T', h', X', e', W, st⟩ := stB X hx hZ eT A (j := j) (o_inb r h0 h1) (g := mkF m pc L (.int z :: .int j :: .ref a :: S)) rfl rfl (hb hby hd)
  have en := o_nat h0
  have W2 : Wr h h' a i _ := en ▸ W
  exact oG.go st (k T' h' ⟨_, X', e', Fr.snoc X' N ha, hx, hby, hml, hZ, hown, hnm, hret, hlk, hn⟩ W2 (A'.same W2))
theorem o_lastore (H : oH p l e R s m args below meth c bc ml y rt Z n0 T h cells slots) {a : Addr} {j : Int32} {z : Int64} {vs : List Value} (i : Nat) (A : oA .long Z h a vs) (h0 : j.toInt = (i : Int)) (h1 : i < vs.length) (ha : n0 ≤ a) (hd : decode bc pc = .ok (.lastore, 1)) (hp : pc + 1 = pc')
    (k : ∀ (T' : State) (h' : Heap), oH p l e R s m args below meth c bc ml y rt Z n0 T' h' cells slots → Wr h h' a i (.long z) → oA .long Z h' a (vs.set i (.long z)) → oG p e below s n0 kc ks Q (T'.setTop (mkF m pc' L S))) : oG p e below s n0 kc ks Q (T.setTop (mkF m pc L (.long z :: .int j :: .ref a :: S))) := by
  obtain ⟨locs, X, eT, N, hx, hby, hml, hZ, hown, hnm, hret, hlk, hn⟩ := H
  subst hp
  have A' := A
  obtain ⟨-, cl, A, r⟩ := A
  obtain ⟨T', h', X', e', W, st⟩ := stJ X hx hZ eT A (j := j) (o_inb r h0 h1) (g := mkF m pc L (.long z :: .int j :: .ref a :: S)) rfl rfl (hb hby hd)
  have en := o_nat h0
  have W2 : Wr h h' a i _ := en ▸ W
  exact oG.go st (k T' h' ⟨_, X', e', Fr.snoc X' N ha, hx, hby, hml, hZ, hown, hnm, hret, hlk, hn⟩ W2 (A'.same W2))
theorem o_static (H : oH p l e R s m args below meth c bc ml y rt Z n0 T h cells slots) {yc : MethodName} {bcc : ByteArray} {maxL i : Nat} {rtc : Option FieldType} {rm : Room} {Q' : Option Value → Heap → Prop} {St : List Value} (argsL : List Value) (S : List Value)
    (con : oC l Z n0 yc bcc maxL rtc rm rm.cells rm.slots argsL.toArray h Q') (wl : (Jvm.Cond.methodLink y.cls i yc).before a0 Z = true) (ws : (Jvm.Cond.static yc).before a0 Z = true) (wz : (Jvm.Cond.initialized yc.cls).before a0 Z = true) (wc : (Jvm.Cond.code yc bcc maxL rtc).before a0 Z = true) (hy : yc.cls ≠ "java/lang/invoke/MethodHandle" ∧ yc.cls ≠ "java/lang/invoke/VarHandle") (hlen : ∀ sig, parseMethodDescriptor yc.desc = some sig → argsL.length = sig.parameters.length) (hst : St = argsL.reverse ++ S) (hsz : L.size = ml) (hf : rm.frames + 1 ≤ R.frames) (hlo : (S.map fun v => v.category).sum + (maxL + 11) + rm.locals ≤ R.locals) (hc : cells + rm.cells ≤ R.cells) (hs : slots + rm.slots ≤ R.slots)
    (hd : decode bc pc = .ok (.invokestatic i, 3)) (hp : pc + 3 = pc') (k : ∀ (T' : State) (v : Option Value) (h' : Heap), oH p l e R s m args below meth c bc ml y rt Z n0 T' h' (cells + rm.cells) (slots + rm.slots) → Q' v h' → oG p e below s n0 kc ks Q (T'.setTop (mkF m pc' L (v.toList ++ S)))) : oG p e below s n0 kc ks Q (T.setTop (mkF m pc L St)) := by
  obtain ⟨locs, X, eT, N, hx, hby, hml, hZ, hown, hnm, hret, hlk, hn⟩ := H
  subst hp
  subst hst
  obtain ⟨v, _, ⟨T', L1, k1, n1⟩, -, X', ⟨Lc, hQ, l', y', z'⟩, st⟩ := Jvm.LawKit.callS X hx (y := yc) hown (mvT hZ wl) (mvT hZ ws) (mvT hZ wz) (mvT hZ wc) hy (backOf (W := (S.map fun v => v.category).sum) (Q := fun v h L => Q' v h ∧ Fr n0 L) (con []) hZ wc wz hf hlo) (g := mkF m pc L (argsL.reverse ++ S)) rfl (by rw [hml]; exact hsz) (argsL := argsL) (rest := S) hlen rfl (by show 2 * 0 + _ ≤ _; omega) (hb hby hd) (fun _ _ => ⟨rfl, eT, hc, hs⟩)
  dsimp only [Pt.U, Pt.locs, Pt.cells, Pt.slots] at X' l' y' z' st hQ
  subst l' y' z'
  exact oG.go (st) (k _ _ _ ⟨_, X', rfl, Fr.app N hQ.2, hx, hby, hml, hZ, hown, hnm, hret, hlk, hn⟩ hQ.1)
theorem o_special (H : oH p l e R s m args below meth c bc ml y rt Z n0 T h cells slots) {yc : MethodName} {bcc : ByteArray} {maxL i : Nat} {rm : Room} {a : Addr} {Q' : Option Value → Heap → Prop} {St : List Value} (argsL : List Value) (S : List Value)
    (con : oC l Z n0 yc bcc maxL none rm rm.cells rm.slots (.ref a :: argsL).toArray h Q') (hy1 : yc.name = "<init>") (wl : (Jvm.Cond.methodLink y.cls i yc).before a0 Z = true) (ws : (Jvm.Cond.instanceMethod yc).before a0 Z = true) (wz : (Jvm.Cond.initialized yc.cls).before a0 Z = true) (wc : (Jvm.Cond.code yc bcc maxL none).before a0 Z = true) (hy : yc.cls ≠ "java/lang/invoke/MethodHandle" ∧ yc.cls ≠ "java/lang/invoke/VarHandle") (hlen : ∀ sig, parseMethodDescriptor yc.desc = some sig → argsL.length = sig.parameters.length) (hst : St = argsL.reverse ++ .ref a :: S) (hsz : L.size = ml) (hf : rm.frames + 1 ≤ R.frames) (hlo : (S.map fun v => v.category).sum + (maxL + 11) + rm.locals ≤ R.locals) (hc : cells + rm.cells ≤ R.cells) (hs : slots + rm.slots ≤ R.slots)
    (hd : decode bc pc = .ok (.invokespecial i, 3)) (hp : pc + 3 = pc') (k : ∀ (T' : State) (v : Option Value) (h' : Heap), oH p l e R s m args below meth c bc ml y rt Z n0 T' h' (cells + rm.cells) (slots + rm.slots) → Q' v h' → oG p e below s n0 kc ks Q (T'.setTop (mkF m pc' L (v.toList ++ S)))) : oG p e below s n0 kc ks Q (T.setTop (mkF m pc L St)) := by
  obtain ⟨locs, X, eT, N, hx, hby, hml, hZ, hown, hnm, hret, hlk, hn⟩ := H
  subst hp
  subst hst
  obtain ⟨v, _, ⟨T', L1, k1, n1⟩, -, X', ⟨Lc, hQ, l', y', z'⟩, st⟩ := X.specialBack hx (y := yc) hy1 hown (mvT hZ wl) (mvT hZ ws) (mvT hZ wc) hy (backOf (W := (S.map fun v => v.category).sum) (Q := fun v h L => Q' v h ∧ Fr n0 L) (con []) hZ wc wz hf hlo) (g := mkF m pc L (argsL.reverse ++ .ref a :: S)) rfl (by rw [hml]; exact hsz) (Steps.refl _) (a := a) (argsL := argsL) (rest := S) hlen rfl (by show 2 * 0 + _ ≤ _; omega) (hb hby hd) (fun _ _ => ⟨rfl, eT, hc, hs⟩)
  dsimp only [Pt.U, Pt.locs, Pt.cells, Pt.slots] at X' l' y' z' st hQ
  subst l' y' z'
  exact oG.go (fun _ hr => st.trans hr) (k _ _ _ ⟨_, X', rfl, Fr.app N hQ.2, hx, hby, hml, hZ, hown, hnm, hret, hlk, hn⟩ hQ.1)
theorem o_virtual (H : oH p l e R s m args below meth c bc ml y rt Z n0 T h cells slots) {yc zc : MethodName} {K : String} {bcc : ByteArray} {maxL i : Nat} {rtc : Option FieldType} {rm : Room} {a : Addr} {Q' : Option Value → Heap → Prop} {St : List Value} (argsL : List Value) (S : List Value)
    (con : oC l Z n0 zc bcc maxL rtc rm rm.cells rm.slots (.ref a :: argsL).toArray h Q') (E : Exa Z h a K) (wl : (Jvm.Cond.methodLink y.cls i yc).before a0 Z = true) (wd : (Jvm.Cond.declares yc).before a0 Z = true) (hnf : ∀ {s' : State}, Z.Warmed39 s'.vm → NotFace s' yc) (wsel : (Jvm.Cond.selects K yc zc).before a0 Z = true) (ws : (Jvm.Cond.instanceMethod zc).before a0 Z = true) (wz : (Jvm.Cond.initialized zc.cls).before a0 Z = true) (wc : (Jvm.Cond.code zc bcc maxL rtc).before a0 Z = true) (hy : yc.cls ≠ "java/lang/invoke/MethodHandle" ∧ yc.cls ≠ "java/lang/invoke/VarHandle") (hlen : ∀ sig, parseMethodDescriptor yc.desc = some sig → argsL.length = sig.parameters.length) (hst : St = argsL.reverse ++ .ref a :: S) (hsz : L.size = ml) (hf : rm.frames + 1 ≤ R.frames) (hlo : (S.map fun v => v.category).sum + (maxL + 11) + rm.locals ≤ R.locals) (hc : cells + rm.cells ≤ R.cells) (hs : slots + rm.slots ≤ R.slots)
    (hd : decode bc pc = .ok (.invokevirtual i, 3)) (hp : pc + 3 = pc') (k : ∀ (T' : State) (v : Option Value) (h' : Heap), oH p l e R s m args below meth c bc ml y rt Z n0 T' h' (cells + rm.cells) (slots + rm.slots) → Q' v h' → oG p e below s n0 kc ks Q (T'.setTop (mkF m pc' L (v.toList ++ S)))) : oG p e below s n0 kc ks Q (T.setTop (mkF m pc L St)) := by
  obtain ⟨locs, X, eT, N, hx, hby, hml, hZ, hown, hnm, hret, hlk, hn⟩ := H
  subst hp
  subst hst
  obtain ⟨cq, kq, qa, qb, qc⟩ := isOf hZ eT E
  obtain ⟨v, _, ⟨T', L1, k1, n1⟩, -, X', ⟨Lc, hQ, l', y', z'⟩, st⟩ := X.virtualBack hx (y := yc) (z := zc) hown (mvT hZ wl) (mvT hZ wd) (hnf hZ) (mvT hZ wsel) (mvT hZ ws) hy (backOf (W := (S.map fun v => v.category).sum) (Q := fun v h L => Q' v h ∧ Fr n0 L) (con []) hZ wc wz hf hlo) qa qc (g := mkF m pc L (argsL.reverse ++ .ref a :: S)) rfl (by rw [hml]; exact hsz) (Steps.refl _) (argsL := argsL) (rest := S) hlen rfl (by show 2 * 0 + _ ≤ _; omega) (hb hby hd) (fun _ _ => ⟨rfl, eT, hc, hs⟩)
  dsimp only [Pt.U, Pt.locs, Pt.cells, Pt.slots] at X' l' y' z' st hQ
  subst l' y' z'
  exact oG.go (fun _ hr => st.trans hr) (k _ _ _ ⟨_, X', rfl, Fr.app N hQ.2, hx, hby, hml, hZ, hown, hnm, hret, hlk, hn⟩ hQ.1)
theorem o_super (H : oH p l e R s m args below meth c bc ml y rt Z n0 T h cells slots) {yc : MethodName} {K : String} {bcc : ByteArray} {maxL i : Nat} {rtc : Option FieldType} {rm : Room} {a : Addr} {Q' : Option Value → Heap → Prop} {St : List Value} (argsL : List Value) (S : List Value)
    (con : oC l Z n0 yc bcc maxL rtc rm rm.cells rm.slots (.ref a :: argsL).toArray h Q') (F : Ins Z h a K true) (hy1 : yc.name ≠ "<init>") (wl : (Jvm.Cond.methodLink y.cls i yc).before a0 Z = true) (wm : (Jvm.Cond.sameMethod yc.cls yc.cls yc.name yc.desc).before a0 Z = true) (wu : (Jvm.Cond.superclass y.cls yc.cls).before a0 Z = true) (ws : (Jvm.Cond.instanceMethod yc).before a0 Z = true) (wz : (Jvm.Cond.initialized yc.cls).before a0 Z = true) (wc : (Jvm.Cond.code yc bcc maxL rtc).before a0 Z = true) (hy : yc.cls ≠ "java/lang/invoke/MethodHandle" ∧ yc.cls ≠ "java/lang/invoke/VarHandle") (hlen : ∀ sig, parseMethodDescriptor yc.desc = some sig → argsL.length = sig.parameters.length) (hst : St = argsL.reverse ++ .ref a :: S) (hsz : L.size = ml) (hf : rm.frames + 1 ≤ R.frames) (hlo : (S.map fun v => v.category).sum + (maxL + 11) + rm.locals ≤ R.locals) (hc : cells + rm.cells ≤ R.cells) (hs : slots + rm.slots ≤ R.slots)
    (hd : decode bc pc = .ok (.invokespecial i, 3)) (hp : pc + 3 = pc') (k : ∀ (T' : State) (v : Option Value) (h' : Heap), oH p l e R s m args below meth c bc ml y rt Z n0 T' h' (cells + rm.cells) (slots + rm.slots) → Q' v h' → oG p e below s n0 kc ks Q (T'.setTop (mkF m pc' L (v.toList ++ S)))) : oG p e below s n0 kc ks Q (T.setTop (mkF m pc L St)) := by
  obtain ⟨locs, X, eT, N, hx, hby, hml, hZ, hown, hnm, hret, hlk, hn⟩ := H
  subst hp
  subst hst
  obtain ⟨v, _, ⟨T', L1, k1, n1⟩, -, X', ⟨Lc, hQ, l', y', z'⟩, st⟩ := superBack X hx hZ (y := yc) hown wl wm ws wu hy1 (backOf (W := (S.map fun v => v.category).sum) (Q := fun v h L => Q' v h ∧ Fr n0 L) (con []) hZ wc wz hf hlo) eT F (g := mkF m pc L (argsL.reverse ++ .ref a :: S)) rfl (by rw [hml]; exact hsz) wc (argsL := argsL) (rest := S) hlen rfl (by show 2 * 0 + _ ≤ _; omega) (hb hby hd) (fun _ _ => ⟨rfl, eT, hc, hs⟩)
  dsimp only [Pt.U, Pt.locs, Pt.cells, Pt.slots] at X' l' y' z' st hQ
  subst l' y' z'
  exact oG.go (fun _ hr => st.trans hr) (k _ _ _ ⟨_, X', rfl, Fr.app N hQ.2, hx, hby, hml, hZ, hown, hnm, hret, hlk, hn⟩ hQ.1)
theorem o_decl {yc : MethodName} {bytes : ByteArray} {mx : Nat} {r : Option FieldType} (wi : (Jvm.Cond.instanceMethod yc).before a0 Z = true) (wc : (Jvm.Cond.code yc bytes mx r).before a0 Z = true) : (Jvm.Cond.declares yc).before a0 Z = true := by
  obtain ⟨mk, methM, hnamed, hmethM, hstM, habM⟩ := Cond.instanceMethod_spec wi
  obtain ⟨m2, cM, q1, -, -, -, -, -, -, hsig⟩ := Cond.code_spec hnamed wc
  cases hmethM.symm.trans q1
  simp [Cond.before, Cond.holds, Cond.value, hnamed, hmethM, hstM, hsig]
theorem o_same {yc zc : MethodName} {K : String} (wi : (Jvm.Cond.instanceMethod yc).before a0 Z = true) (ws : (Jvm.Cond.selects K zc zc).before a0 Z = true) (hz : zc.cls = yc.cls) (hy : yc.cls ≠ "java/lang/invoke/MethodHandle" ∧ yc.cls ≠ "java/lang/invoke/VarHandle") : (Jvm.Cond.sameMethod yc.cls yc.cls yc.name yc.desc).before a0 Z = true := by
  obtain ⟨mk, methM, hnamed, hmethM, hstM, habM⟩ := Cond.instanceMethod_spec wi
  obtain ⟨c2, r2, m2, -, -, q3, -, kP, hkP, hkPi⟩ := Cond.selects_spec ws
  have hf := State.methodFound?_of_named hnamed hy
  have hc := findClass_of_methodNamed hnamed
  have hc2 := findClass_of_methodNamed q3
  rw [hz] at hc2
  have e : mk.cls = m2.cls := Option.some.inj (hc.symm.trans hc2)
  rw [← e] at hkP
  have hn' : Z.methodNamed? ⟨yc.cls, yc.name, yc.desc⟩ = some mk := hnamed
  simp [Cond.before, Cond.holds, Cond.value, hc, hf, hn', hkP, hkPi]
def oFit (ty : FieldType) (vs : List Value) : Prop := ∀ v ∈ vs, fits ty v = true
theorem oFit.set {ty : FieldType} {vs : List Value} (F : oFit ty vs) {j : Nat} {v : Value} (hv : fits ty v = true) : oFit ty (vs.set j v) := fun u hu => by
  rcases List.mem_or_eq_of_mem_set hu with q | q
  · exact F u q
  · rw [q]; exact hv
theorem o_clone (H : oH p l e R s m args below meth c bc ml y rt Z n0 T h cells slots) {i : Nat} {a : Addr} {vs : List Value} {ty : FieldType} {ad : String} (cap : Nat) (wl : (Jvm.Cond.methodLink y.cls i ⟨ad, "clone", "()Ljava/lang/Object;"⟩).before a0 Z = true) (w2 : (Jvm.Cond.sameMethod ad "java/lang/Object" "clone" "()Ljava/lang/Object;").before a0 Z = true) (w3 : (Jvm.Cond.native ⟨"java/lang/Object", "clone", "()Ljava/lang/Object;"⟩).before a0 Z = true)
    (w4 : (Jvm.Cond.instanceMethod ⟨"java/lang/Object", "clone", "()Ljava/lang/Object;"⟩).before a0 Z = true) (w5 : (Jvm.Cond.selects ad ⟨ad, "clone", "()Ljava/lang/Object;"⟩ ⟨"java/lang/Object", "clone", "()Ljava/lang/Object;"⟩).before a0 Z = true) (w6 : (Jvm.Cond.castable ad "java/lang/Cloneable").before a0 Z = true)
    (A : oA ty Z h a vs) (E : Exa Z h a ad) (F : oFit ty vs) (hcap : vs.length ≤ cap) (hd : decode bc pc = .ok (.invokevirtual i, 3)) (hp : pc + 3 = pc') (hsz : L.size = ml) (hf : 1 ≤ R.frames) (hlo : (S.map fun v => v.category).sum + 14 ≤ R.locals) (hc : cells + 1 ≤ R.cells) (hl : slots + cap ≤ R.slots)
    (k : ∀ (T' : State) (h' : Heap) (b : Addr), b = h.size → oH p l e R s m args below meth c bc ml y rt Z n0 T' h' (cells + 1) (slots + cap) → Ext h h' → oA ty Z h' b vs → Exa Z h' b ad → oG p e below s n0 kc ks Q (T'.setTop (mkF m pc' L (.ref b :: S)))) : oG p e below s n0 kc ks Q (T.setTop (mkF m pc L (.ref a :: S))) := by
  obtain ⟨locs, X, eT, N, hx, hby, hml, hZ, hown, hnm, hret, hlk, hn⟩ := H
  subst hp
  obtain ⟨q, cl, A, r⟩ := A
  have hF : FitC Z cl := fitC_of A (fun j hj v hv => F v (by rw [r] at hv; exact List.mem_of_getElem? (by simpa using hv)))
  obtain ⟨T', h', X', e', E', A', E2, st⟩ := cloneA X hx hZ hown wl w2 w3 w4 w5 w6 eT A E hF (g := mkF m pc L (.ref a :: S)) rfl (by rw [hml]; exact hsz) (rest := S) rfl (hb hby hd) hf (W := (S.map fun v => v.category).sum) (cap := cap) (by show 2 * 0 + _ ≤ _; omega) hlo (by rw [r]; simpa using hcap) hc hl
  exact oG.go st (k T' h' _ rfl ⟨locs, X', e', N, hx, hby, hml, hZ, hown, hnm, hret, hlk, hn⟩ E' ⟨q, _, A', r⟩ E2)
theorem o_nf2 {yc zc : MethodName} {K : String} (w : (Jvm.Cond.selects K zc zc).before a0 Z = true) (hz : zc.cls = yc.cls) : ∀ {s' : State}, Z.Warmed39 s'.vm → NotFace s' yc := fun {s'} hZ r0 h0 => by
  have w' : (Jvm.Cond.selects K zc zc).before #[] s' = true := mvT hZ w
  obtain ⟨c2, r2, m2, -, -, q3, -, kP, hkP, hkPi⟩ := Cond.selects_spec w'
  have e1 := findClass_of_methodNamed h0
  have e2 := findClass_of_methodNamed q3
  rw [hz] at e2
  have e : r0.cls = m2.cls := Option.some.inj (e1.symm.trans e2)
  exact ⟨kP, by rw [e]; exact hkP, hkPi⟩
theorem o_nf {yc : MethodName} {K : String} (w : (Jvm.Cond.selects K yc yc).before a0 Z = true) : ∀ {s' : State}, Z.Warmed39 s'.vm → NotFace s' yc := fun {s'} hZ => notFace_of_selects (args := #[]) (mvT hZ w)
theorem n_lt (x z : Int32) : x < z ↔ x.toInt < z.toInt := Int32.lt_iff_toInt_lt
theorem n_eq (x z : Int32) : x = z ↔ x.toInt = z.toInt := Int32.toInt_inj.symm
theorem n_ltJ (x z : Int64) : x < z ↔ x.toInt < z.toInt := Int64.lt_iff_toInt_lt
theorem n_eqJ (x z : Int64) : x = z ↔ x.toInt = z.toInt := Int64.toInt_inj.symm
theorem n_and (x z : Int32) (h : 0 ≤ z.toInt) : 0 ≤ (x &&& z).toInt ∧ (x &&& z).toInt ≤ z.toInt := by
  have q : (x &&& z).toBitVec.toNat = x.toBitVec.toNat &&& z.toBitVec.toNat := by show (x.toBitVec &&& z.toBitVec).toNat = _; rw [BitVec.toNat_and]
  have o : x.toBitVec.toNat &&& z.toBitVec.toNat ≤ z.toBitVec.toNat := Nat.and_le_right
  have lm := z.toBitVec.isLt
  change 0 ≤ z.toBitVec.toInt at h
  show 0 ≤ (x &&& z).toBitVec.toInt ∧ (x &&& z).toBitVec.toInt ≤ z.toBitVec.toInt
  rw [BitVec.toInt_eq_toNat_cond] at h
  simp only [BitVec.toInt_eq_toNat_cond, q]
  split at h <;> (repeat' split) <;> omega
theorem n_andJ (x z : Int64) (h : 0 ≤ z.toInt) : 0 ≤ (x &&& z).toInt ∧ (x &&& z).toInt ≤ z.toInt := by
  have q : (x &&& z).toBitVec.toNat = x.toBitVec.toNat &&& z.toBitVec.toNat := by show (x.toBitVec &&& z.toBitVec).toNat = _; rw [BitVec.toNat_and]
  have o : x.toBitVec.toNat &&& z.toBitVec.toNat ≤ z.toBitVec.toNat := Nat.and_le_right
  have lm := z.toBitVec.isLt
  change 0 ≤ z.toBitVec.toInt at h
  show 0 ≤ (x &&& z).toBitVec.toInt ∧ (x &&& z).toBitVec.toInt ≤ z.toBitVec.toInt
  rw [BitVec.toInt_eq_toNat_cond] at h
  simp only [BitVec.toInt_eq_toNat_cond, q]
  split at h <;> (repeat' split) <;> omega
theorem n_rem (x z : Int32) (d : Int) (hd : 0 < d) (hz : z.toInt = d) (hx : 0 ≤ x.toInt) : (x % z).toInt = x.toInt % d := by
  rw [Int32.toInt_mod, hz, Int.tmod_eq_emod_of_nonneg hx]
theorem n_nat (x : Int32) (n : Nat) (h0 : 0 ≤ x.toInt) (h1 : x.toInt < n) : ∃ i : Fin n, x = Int32.ofNat i.1 := by
  refine ⟨⟨x.toInt.toNat, by omega⟩, ?_⟩
  rw [n_eq]
  have := Int32.toInt_lt x
  have e : (Int32.ofNat x.toInt.toNat).toInt = x.toInt.toNat := Int32.toInt_ofNat_of_lt (by omega)
  show x.toInt = (Int32.ofNat x.toInt.toNat).toInt
  rw [e]; omega
end Own
theorem w0 {Z : State} {a0 : Array Value} (hw : ∀ d ∈ tables_1, d.before a0 Z = true) : (Jvm.Cond.constant "com/example/encase/encase/codec/Base32EncodePinLaw" (7 : Nat) (2147483647 : Int32)).before a0 Z = true := hw _ (List.mem_of_getElem? (i := 0) rfl)
theorem w1 {Z : State} {a0 : Array Value} (hw : ∀ d ∈ tables_1, d.before a0 Z = true) : (Jvm.Cond.arrayClass Jvm.ClassFile.FieldType.byte).before a0 Z = true := hw _ (List.mem_of_getElem? (i := 1) rfl)
theorem w2 {Z : State} {a0 : Array Value} (hw : ∀ d ∈ tables_1, d.before a0 Z = true) : (Jvm.Cond.methodLink "com/example/encase/encase/codec/Base32EncodePinLaw" (8 : Nat) ({ cls := "com/example/encase/encase/codec/Base32", name := "encode", desc := "([B)Ljava/lang/String;" } : Jvm.MethodName)).before a0 Z = true := hw _ (List.mem_of_getElem? (i := 2) rfl)
theorem w3 {Z : State} {a0 : Array Value} (hw : ∀ d ∈ tables_1, d.before a0 Z = true) : (Jvm.Cond.static ({ cls := "com/example/encase/encase/codec/Base32", name := "encode", desc := "([B)Ljava/lang/String;" } : Jvm.MethodName)).before a0 Z = true := hw _ (List.mem_of_getElem? (i := 3) rfl)
theorem w4 {Z : State} {a0 : Array Value} (hw : ∀ d ∈ tables_1, d.before a0 Z = true) : (Jvm.Cond.initialized "com/example/encase/encase/codec/Base32").before a0 Z = true := hw _ (List.mem_of_getElem? (i := 4) rfl)
theorem w5 {Z : State} {a0 : Array Value} (hw : ∀ d ∈ tables_1, d.before a0 Z = true) : (Jvm.Cond.code ({ cls := "com/example/encase/encase/codec/Base32", name := "encode", desc := "([B)Ljava/lang/String;" } : Jvm.MethodName) prog_16_method_2_code (8 : Nat) (Option.some (Jvm.ClassFile.FieldType.object "java/lang/String"))).before a0 Z = true := hw _ (List.mem_of_getElem? (i := 5) rfl)
theorem w6 {Z : State} {a0 : Array Value} (hw : ∀ d ∈ tables_1, d.before a0 Z = true) : (Jvm.Cond.classLink "com/example/encase/encase/codec/Base32" (7 : Nat) "java/lang/StringBuilder").before a0 Z = true := hw _ (List.mem_of_getElem? (i := 6) rfl)
theorem w7 {Z : State} {a0 : Array Value} (hw : ∀ d ∈ tables_1, d.before a0 Z = true) : (Jvm.Cond.instantiable "java/lang/StringBuilder" (4 : Nat)).before a0 Z = true := hw _ (List.mem_of_getElem? (i := 7) rfl)
theorem w8 {Z : State} {a0 : Array Value} (hw : ∀ d ∈ tables_1, d.before a0 Z = true) : (Jvm.Cond.initialized "java/lang/StringBuilder").before a0 Z = true := hw _ (List.mem_of_getElem? (i := 8) rfl)
theorem w9 {Z : State} {a0 : Array Value} (hw : ∀ d ∈ tables_1, d.before a0 Z = true) : (Jvm.Cond.methodLink "com/example/encase/encase/codec/Base32" (9 : Nat) ({ cls := "java/lang/StringBuilder", name := "<init>", desc := "(I)V" } : Jvm.MethodName)).before a0 Z = true := hw _ (List.mem_of_getElem? (i := 9) rfl)
theorem w10 {Z : State} {a0 : Array Value} (hw : ∀ d ∈ tables_1, d.before a0 Z = true) : (Jvm.Cond.instanceMethod ({ cls := "java/lang/StringBuilder", name := "<init>", desc := "(I)V" } : Jvm.MethodName)).before a0 Z = true := hw _ (List.mem_of_getElem? (i := 10) rfl)
theorem w11 {Z : State} {a0 : Array Value} (hw : ∀ d ∈ tables_1, d.before a0 Z = true) : (Jvm.Cond.code ({ cls := "java/lang/StringBuilder", name := "<init>", desc := "(I)V" } : Jvm.MethodName) jdk_67_method_2_code (2 : Nat) (Option.none : Option Jvm.ClassFile.FieldType)).before a0 Z = true := hw _ (List.mem_of_getElem? (i := 11) rfl)
theorem w12 {Z : State} {a0 : Array Value} (hw : ∀ d ∈ tables_1, d.before a0 Z = true) : (Jvm.Cond.methodLink "java/lang/StringBuilder" (1 : Nat) ({ cls := "java/lang/AbstractStringBuilder", name := "<init>", desc := "(I)V" } : Jvm.MethodName)).before a0 Z = true := hw _ (List.mem_of_getElem? (i := 12) rfl)
theorem w13 {Z : State} {a0 : Array Value} (hw : ∀ d ∈ tables_1, d.before a0 Z = true) : (Jvm.Cond.instanceMethod ({ cls := "java/lang/AbstractStringBuilder", name := "<init>", desc := "(I)V" } : Jvm.MethodName)).before a0 Z = true := hw _ (List.mem_of_getElem? (i := 13) rfl)
theorem w14 {Z : State} {a0 : Array Value} (hw : ∀ d ∈ tables_1, d.before a0 Z = true) : (Jvm.Cond.declares ({ cls := "java/lang/AbstractStringBuilder", name := "<init>", desc := "(I)V" } : Jvm.MethodName)).before a0 Z = true := hw _ (List.mem_of_getElem? (i := 14) rfl)
theorem w15 {Z : State} {a0 : Array Value} (hw : ∀ d ∈ tables_1, d.before a0 Z = true) : (Jvm.Cond.castable "java/lang/StringBuilder" "java/lang/AbstractStringBuilder").before a0 Z = true := hw _ (List.mem_of_getElem? (i := 15) rfl)
theorem w16 {Z : State} {a0 : Array Value} (hw : ∀ d ∈ tables_1, d.before a0 Z = true) : (Jvm.Cond.initialized "java/lang/AbstractStringBuilder").before a0 Z = true := hw _ (List.mem_of_getElem? (i := 16) rfl)
theorem w17 {Z : State} {a0 : Array Value} (hw : ∀ d ∈ tables_1, d.before a0 Z = true) : (Jvm.Cond.code ({ cls := "java/lang/AbstractStringBuilder", name := "<init>", desc := "(I)V" } : Jvm.MethodName) jdk_68_method_2_code (2 : Nat) (Option.none : Option Jvm.ClassFile.FieldType)).before a0 Z = true := hw _ (List.mem_of_getElem? (i := 17) rfl)
theorem w18 {Z : State} {a0 : Array Value} (hw : ∀ d ∈ tables_1, d.before a0 Z = true) : (Jvm.Cond.methodLink "java/lang/AbstractStringBuilder" (3 : Nat) ({ cls := "java/lang/Object", name := "<init>", desc := "()V" } : Jvm.MethodName)).before a0 Z = true := hw _ (List.mem_of_getElem? (i := 18) rfl)
theorem w19 {Z : State} {a0 : Array Value} (hw : ∀ d ∈ tables_1, d.before a0 Z = true) : (Jvm.Cond.instanceMethod ({ cls := "java/lang/Object", name := "<init>", desc := "()V" } : Jvm.MethodName)).before a0 Z = true := hw _ (List.mem_of_getElem? (i := 19) rfl)
theorem w20 {Z : State} {a0 : Array Value} (hw : ∀ d ∈ tables_1, d.before a0 Z = true) : (Jvm.Cond.code ({ cls := "java/lang/Object", name := "<init>", desc := "()V" } : Jvm.MethodName) object_method_1_code (1 : Nat) (Option.none : Option Jvm.ClassFile.FieldType)).before a0 Z = true := hw _ (List.mem_of_getElem? (i := 20) rfl)
theorem w21 {Z : State} {a0 : Array Value} (hw : ∀ d ∈ tables_1, d.before a0 Z = true) : (Jvm.Cond.fieldLink "java/lang/AbstractStringBuilder" (18 : Nat) "java/lang/String" "COMPACT_STRINGS" "Z").before a0 Z = true := hw _ (List.mem_of_getElem? (i := 21) rfl)
theorem w22 {Z : State} {a0 : Array Value} (hw : ∀ d ∈ tables_1, d.before a0 Z = true) : (Jvm.Cond.initialized "java/lang/String").before a0 Z = true := hw _ (List.mem_of_getElem? (i := 22) rfl)
theorem w23 {Z : State} {a0 : Array Value} (hw : ∀ d ∈ tables_1, d.before a0 Z = true) : (Jvm.Cond.fieldLink "java/lang/AbstractStringBuilder" (15 : Nat) "java/lang/AbstractStringBuilder" "value" "[B").before a0 Z = true := hw _ (List.mem_of_getElem? (i := 23) rfl)
theorem w24 {Z : State} {a0 : Array Value} (hw : ∀ d ∈ tables_1, d.before a0 Z = true) : (Jvm.Cond.lays "java/lang/StringBuilder" "java/lang/AbstractStringBuilder" "value" "[B").before a0 Z = true := hw _ (List.mem_of_getElem? (i := 24) rfl)
theorem w25 {Z : State} {a0 : Array Value} (hw : ∀ d ∈ tables_1, d.before a0 Z = true) : (Jvm.Cond.fieldLink "java/lang/AbstractStringBuilder" (22 : Nat) "java/lang/AbstractStringBuilder" "coder" "B").before a0 Z = true := hw _ (List.mem_of_getElem? (i := 25) rfl)
theorem w26 {Z : State} {a0 : Array Value} (hw : ∀ d ∈ tables_1, d.before a0 Z = true) : (Jvm.Cond.lays "java/lang/StringBuilder" "java/lang/AbstractStringBuilder" "coder" "B").before a0 Z = true := hw _ (List.mem_of_getElem? (i := 26) rfl)
theorem w27 {Z : State} {a0 : Array Value} (hw : ∀ d ∈ tables_1, d.before a0 Z = true) : (Jvm.Cond.methodLink "com/example/encase/encase/codec/Base32" (22 : Nat) ({ cls := "java/lang/StringBuilder", name := "toString", desc := "()Ljava/lang/String;" } : Jvm.MethodName)).before a0 Z = true := hw _ (List.mem_of_getElem? (i := 27) rfl)
theorem w28 {Z : State} {a0 : Array Value} (hw : ∀ d ∈ tables_1, d.before a0 Z = true) : (Jvm.Cond.declares ({ cls := "java/lang/StringBuilder", name := "toString", desc := "()Ljava/lang/String;" } : Jvm.MethodName)).before a0 Z = true := hw _ (List.mem_of_getElem? (i := 28) rfl)
theorem w29 {Z : State} {a0 : Array Value} (hw : ∀ d ∈ tables_1, d.before a0 Z = true) : (Jvm.Cond.instanceMethod ({ cls := "java/lang/StringBuilder", name := "toString", desc := "()Ljava/lang/String;" } : Jvm.MethodName)).before a0 Z = true := hw _ (List.mem_of_getElem? (i := 29) rfl)
theorem w30 {Z : State} {a0 : Array Value} (hw : ∀ d ∈ tables_1, d.before a0 Z = true) : (Jvm.Cond.selects "java/lang/StringBuilder" ({ cls := "java/lang/StringBuilder", name := "toString", desc := "()Ljava/lang/String;" } : Jvm.MethodName) ({ cls := "java/lang/StringBuilder", name := "toString", desc := "()Ljava/lang/String;" } : Jvm.MethodName)).before a0 Z = true := hw _ (List.mem_of_getElem? (i := 30) rfl)
theorem w31 {Z : State} {a0 : Array Value} (hw : ∀ d ∈ tables_1, d.before a0 Z = true) : (Jvm.Cond.code ({ cls := "java/lang/StringBuilder", name := "toString", desc := "()Ljava/lang/String;" } : Jvm.MethodName) jdk_67_method_42_code (1 : Nat) (Option.some (Jvm.ClassFile.FieldType.object "java/lang/String"))).before a0 Z = true := hw _ (List.mem_of_getElem? (i := 31) rfl)
theorem w32 {Z : State} {a0 : Array Value} (hw : ∀ d ∈ tables_1, d.before a0 Z = true) : (Jvm.Cond.classLink "java/lang/StringBuilder" (18 : Nat) "java/lang/String").before a0 Z = true := hw _ (List.mem_of_getElem? (i := 32) rfl)
theorem w33 {Z : State} {a0 : Array Value} (hw : ∀ d ∈ tables_1, d.before a0 Z = true) : (Jvm.Cond.instantiable "java/lang/String" (4 : Nat)).before a0 Z = true := hw _ (List.mem_of_getElem? (i := 33) rfl)
theorem w34 {Z : State} {a0 : Array Value} (hw : ∀ d ∈ tables_1, d.before a0 Z = true) : (Jvm.Cond.methodLink "java/lang/StringBuilder" (137 : Nat) ({ cls := "java/lang/String", name := "<init>", desc := "(Ljava/lang/StringBuilder;)V" } : Jvm.MethodName)).before a0 Z = true := hw _ (List.mem_of_getElem? (i := 34) rfl)
theorem w35 {Z : State} {a0 : Array Value} (hw : ∀ d ∈ tables_1, d.before a0 Z = true) : (Jvm.Cond.instanceMethod ({ cls := "java/lang/String", name := "<init>", desc := "(Ljava/lang/StringBuilder;)V" } : Jvm.MethodName)).before a0 Z = true := hw _ (List.mem_of_getElem? (i := 35) rfl)
theorem w36 {Z : State} {a0 : Array Value} (hw : ∀ d ∈ tables_1, d.before a0 Z = true) : (Jvm.Cond.castable "java/lang/String" "java/lang/String").before a0 Z = true := hw _ (List.mem_of_getElem? (i := 36) rfl)
theorem w37 {Z : State} {a0 : Array Value} (hw : ∀ d ∈ tables_1, d.before a0 Z = true) : (Jvm.Cond.code ({ cls := "java/lang/String", name := "<init>", desc := "(Ljava/lang/StringBuilder;)V" } : Jvm.MethodName) jdk_42_method_53_code (2 : Nat) (Option.none : Option Jvm.ClassFile.FieldType)).before a0 Z = true := hw _ (List.mem_of_getElem? (i := 37) rfl)
theorem w38 {Z : State} {a0 : Array Value} (hw : ∀ d ∈ tables_1, d.before a0 Z = true) : (Jvm.Cond.methodLink "java/lang/String" (489 : Nat) ({ cls := "java/lang/String", name := "<init>", desc := "(Ljava/lang/AbstractStringBuilder;Ljava/lang/Void;)V" } : Jvm.MethodName)).before a0 Z = true := hw _ (List.mem_of_getElem? (i := 38) rfl)
theorem w39 {Z : State} {a0 : Array Value} (hw : ∀ d ∈ tables_1, d.before a0 Z = true) : (Jvm.Cond.instanceMethod ({ cls := "java/lang/String", name := "<init>", desc := "(Ljava/lang/AbstractStringBuilder;Ljava/lang/Void;)V" } : Jvm.MethodName)).before a0 Z = true := hw _ (List.mem_of_getElem? (i := 39) rfl)
theorem w40 {Z : State} {a0 : Array Value} (hw : ∀ d ∈ tables_1, d.before a0 Z = true) : (Jvm.Cond.code ({ cls := "java/lang/String", name := "<init>", desc := "(Ljava/lang/AbstractStringBuilder;Ljava/lang/Void;)V" } : Jvm.MethodName) jdk_42_method_150_code (5 : Nat) (Option.none : Option Jvm.ClassFile.FieldType)).before a0 Z = true := hw _ (List.mem_of_getElem? (i := 40) rfl)
theorem w41 {Z : State} {a0 : Array Value} (hw : ∀ d ∈ tables_1, d.before a0 Z = true) : (Jvm.Cond.methodLink "java/lang/String" (1 : Nat) ({ cls := "java/lang/Object", name := "<init>", desc := "()V" } : Jvm.MethodName)).before a0 Z = true := hw _ (List.mem_of_getElem? (i := 41) rfl)
theorem w42 {Z : State} {a0 : Array Value} (hw : ∀ d ∈ tables_1, d.before a0 Z = true) : (Jvm.Cond.methodLink "java/lang/String" (552 : Nat) ({ cls := "java/lang/AbstractStringBuilder", name := "getValue", desc := "()[B" } : Jvm.MethodName)).before a0 Z = true := hw _ (List.mem_of_getElem? (i := 42) rfl)
theorem w43 {Z : State} {a0 : Array Value} (hw : ∀ d ∈ tables_1, d.before a0 Z = true) : (Jvm.Cond.declares ({ cls := "java/lang/AbstractStringBuilder", name := "getValue", desc := "()[B" } : Jvm.MethodName)).before a0 Z = true := hw _ (List.mem_of_getElem? (i := 43) rfl)
theorem w44 {Z : State} {a0 : Array Value} (hw : ∀ d ∈ tables_1, d.before a0 Z = true) : (Jvm.Cond.instanceMethod ({ cls := "java/lang/AbstractStringBuilder", name := "getValue", desc := "()[B" } : Jvm.MethodName)).before a0 Z = true := hw _ (List.mem_of_getElem? (i := 44) rfl)
theorem w45 {Z : State} {a0 : Array Value} (hw : ∀ d ∈ tables_1, d.before a0 Z = true) : (Jvm.Cond.selects "java/lang/StringBuilder" ({ cls := "java/lang/AbstractStringBuilder", name := "getValue", desc := "()[B" } : Jvm.MethodName) ({ cls := "java/lang/AbstractStringBuilder", name := "getValue", desc := "()[B" } : Jvm.MethodName)).before a0 Z = true := hw _ (List.mem_of_getElem? (i := 45) rfl)
theorem w46 {Z : State} {a0 : Array Value} (hw : ∀ d ∈ tables_1, d.before a0 Z = true) : (Jvm.Cond.code ({ cls := "java/lang/AbstractStringBuilder", name := "getValue", desc := "()[B" } : Jvm.MethodName) jdk_68_method_64_code (1 : Nat) (Option.some (Jvm.ClassFile.FieldType.array Jvm.ClassFile.FieldType.byte))).before a0 Z = true := hw _ (List.mem_of_getElem? (i := 46) rfl)
theorem w47 {Z : State} {a0 : Array Value} (hw : ∀ d ∈ tables_1, d.before a0 Z = true) : (Jvm.Cond.methodLink "java/lang/String" (549 : Nat) ({ cls := "java/lang/AbstractStringBuilder", name := "length", desc := "()I" } : Jvm.MethodName)).before a0 Z = true := hw _ (List.mem_of_getElem? (i := 47) rfl)
theorem w48 {Z : State} {a0 : Array Value} (hw : ∀ d ∈ tables_1, d.before a0 Z = true) : (Jvm.Cond.declares ({ cls := "java/lang/AbstractStringBuilder", name := "length", desc := "()I" } : Jvm.MethodName)).before a0 Z = true := hw _ (List.mem_of_getElem? (i := 48) rfl)
theorem w49 {Z : State} {a0 : Array Value} (hw : ∀ d ∈ tables_1, d.before a0 Z = true) : (Jvm.Cond.instanceMethod ({ cls := "java/lang/AbstractStringBuilder", name := "length", desc := "()I" } : Jvm.MethodName)).before a0 Z = true := hw _ (List.mem_of_getElem? (i := 49) rfl)
theorem w50 {Z : State} {a0 : Array Value} (hw : ∀ d ∈ tables_1, d.before a0 Z = true) : (Jvm.Cond.selects "java/lang/StringBuilder" ({ cls := "java/lang/AbstractStringBuilder", name := "length", desc := "()I" } : Jvm.MethodName) ({ cls := "java/lang/StringBuilder", name := "length", desc := "()I" } : Jvm.MethodName)).before a0 Z = true := hw _ (List.mem_of_getElem? (i := 50) rfl)
theorem w51 {Z : State} {a0 : Array Value} (hw : ∀ d ∈ tables_1, d.before a0 Z = true) : (Jvm.Cond.instanceMethod ({ cls := "java/lang/StringBuilder", name := "length", desc := "()I" } : Jvm.MethodName)).before a0 Z = true := hw _ (List.mem_of_getElem? (i := 51) rfl)
theorem w52 {Z : State} {a0 : Array Value} (hw : ∀ d ∈ tables_1, d.before a0 Z = true) : (Jvm.Cond.code ({ cls := "java/lang/StringBuilder", name := "length", desc := "()I" } : Jvm.MethodName) jdk_67_method_93_code (1 : Nat) (Option.some Jvm.ClassFile.FieldType.int)).before a0 Z = true := hw _ (List.mem_of_getElem? (i := 52) rfl)
theorem w53 {Z : State} {a0 : Array Value} (hw : ∀ d ∈ tables_1, d.before a0 Z = true) : (Jvm.Cond.methodLink "java/lang/StringBuilder" (343 : Nat) ({ cls := "java/lang/AbstractStringBuilder", name := "length", desc := "()I" } : Jvm.MethodName)).before a0 Z = true := hw _ (List.mem_of_getElem? (i := 53) rfl)
theorem w54 {Z : State} {a0 : Array Value} (hw : ∀ d ∈ tables_1, d.before a0 Z = true) : (Jvm.Cond.superclass "java/lang/StringBuilder" "java/lang/AbstractStringBuilder").before a0 Z = true := hw _ (List.mem_of_getElem? (i := 54) rfl)
theorem w55 {Z : State} {a0 : Array Value} (hw : ∀ d ∈ tables_1, d.before a0 Z = true) : (Jvm.Cond.code ({ cls := "java/lang/AbstractStringBuilder", name := "length", desc := "()I" } : Jvm.MethodName) jdk_68_method_6_code (1 : Nat) (Option.some Jvm.ClassFile.FieldType.int)).before a0 Z = true := hw _ (List.mem_of_getElem? (i := 55) rfl)
theorem w56 {Z : State} {a0 : Array Value} (hw : ∀ d ∈ tables_1, d.before a0 Z = true) : (Jvm.Cond.fieldLink "java/lang/AbstractStringBuilder" (79 : Nat) "java/lang/AbstractStringBuilder" "count" "I").before a0 Z = true := hw _ (List.mem_of_getElem? (i := 56) rfl)
theorem w57 {Z : State} {a0 : Array Value} (hw : ∀ d ∈ tables_1, d.before a0 Z = true) : (Jvm.Cond.lays "java/lang/StringBuilder" "java/lang/AbstractStringBuilder" "count" "I").before a0 Z = true := hw _ (List.mem_of_getElem? (i := 57) rfl)
theorem w58 {Z : State} {a0 : Array Value} (hw : ∀ d ∈ tables_1, d.before a0 Z = true) : (Jvm.Cond.methodLink "java/lang/String" (1047 : Nat) ({ cls := "java/lang/AbstractStringBuilder", name := "isLatin1", desc := "()Z" } : Jvm.MethodName)).before a0 Z = true := hw _ (List.mem_of_getElem? (i := 58) rfl)
theorem w59 {Z : State} {a0 : Array Value} (hw : ∀ d ∈ tables_1, d.before a0 Z = true) : (Jvm.Cond.declares ({ cls := "java/lang/AbstractStringBuilder", name := "isLatin1", desc := "()Z" } : Jvm.MethodName)).before a0 Z = true := hw _ (List.mem_of_getElem? (i := 59) rfl)
theorem w60 {Z : State} {a0 : Array Value} (hw : ∀ d ∈ tables_1, d.before a0 Z = true) : (Jvm.Cond.instanceMethod ({ cls := "java/lang/AbstractStringBuilder", name := "isLatin1", desc := "()Z" } : Jvm.MethodName)).before a0 Z = true := hw _ (List.mem_of_getElem? (i := 60) rfl)
theorem w61 {Z : State} {a0 : Array Value} (hw : ∀ d ∈ tables_1, d.before a0 Z = true) : (Jvm.Cond.selects "java/lang/StringBuilder" ({ cls := "java/lang/AbstractStringBuilder", name := "isLatin1", desc := "()Z" } : Jvm.MethodName) ({ cls := "java/lang/AbstractStringBuilder", name := "isLatin1", desc := "()Z" } : Jvm.MethodName)).before a0 Z = true := hw _ (List.mem_of_getElem? (i := 61) rfl)
theorem w62 {Z : State} {a0 : Array Value} (hw : ∀ d ∈ tables_1, d.before a0 Z = true) : (Jvm.Cond.code ({ cls := "java/lang/AbstractStringBuilder", name := "isLatin1", desc := "()Z" } : Jvm.MethodName) jdk_68_method_68_code (1 : Nat) (Option.some Jvm.ClassFile.FieldType.boolean)).before a0 Z = true := hw _ (List.mem_of_getElem? (i := 62) rfl)
theorem w63 {Z : State} {a0 : Array Value} (hw : ∀ d ∈ tables_1, d.before a0 Z = true) : (Jvm.Cond.fieldLink "java/lang/String" (15 : Nat) "java/lang/String" "coder" "B").before a0 Z = true := hw _ (List.mem_of_getElem? (i := 63) rfl)
theorem w64 {Z : State} {a0 : Array Value} (hw : ∀ d ∈ tables_1, d.before a0 Z = true) : (Jvm.Cond.laysFinal "java/lang/String" "java/lang/String" "coder" "B").before a0 Z = true := hw _ (List.mem_of_getElem? (i := 64) rfl)
theorem w65 {Z : State} {a0 : Array Value} (hw : ∀ d ∈ tables_1, d.before a0 Z = true) : (Jvm.Cond.methodLink "java/lang/String" (54 : Nat) ({ cls := "java/util/Arrays", name := "copyOfRange", desc := "([BII)[B" } : Jvm.MethodName)).before a0 Z = true := hw _ (List.mem_of_getElem? (i := 65) rfl)
theorem w66 {Z : State} {a0 : Array Value} (hw : ∀ d ∈ tables_1, d.before a0 Z = true) : (Jvm.Cond.static ({ cls := "java/util/Arrays", name := "copyOfRange", desc := "([BII)[B" } : Jvm.MethodName)).before a0 Z = true := hw _ (List.mem_of_getElem? (i := 66) rfl)
theorem w67 {Z : State} {a0 : Array Value} (hw : ∀ d ∈ tables_1, d.before a0 Z = true) : (Jvm.Cond.initialized "java/util/Arrays").before a0 Z = true := hw _ (List.mem_of_getElem? (i := 67) rfl)
theorem w68 {Z : State} {a0 : Array Value} (hw : ∀ d ∈ tables_1, d.before a0 Z = true) : (Jvm.Cond.code ({ cls := "java/util/Arrays", name := "copyOfRange", desc := "([BII)[B" } : Jvm.MethodName) jdk_65_method_132_code (3 : Nat) (Option.some (Jvm.ClassFile.FieldType.array Jvm.ClassFile.FieldType.byte))).before a0 Z = true := hw _ (List.mem_of_getElem? (i := 68) rfl)
theorem w69 {Z : State} {a0 : Array Value} (hw : ∀ d ∈ tables_1, d.before a0 Z = true) : (Jvm.Cond.methodLink "java/util/Arrays" (310 : Nat) ({ cls := "[B", name := "clone", desc := "()Ljava/lang/Object;" } : Jvm.MethodName)).before a0 Z = true := hw _ (List.mem_of_getElem? (i := 69) rfl)
theorem w70 {Z : State} {a0 : Array Value} (hw : ∀ d ∈ tables_1, d.before a0 Z = true) : (Jvm.Cond.sameMethod "[B" "java/lang/Object" "clone" "()Ljava/lang/Object;").before a0 Z = true := hw _ (List.mem_of_getElem? (i := 70) rfl)
theorem w71 {Z : State} {a0 : Array Value} (hw : ∀ d ∈ tables_1, d.before a0 Z = true) : (Jvm.Cond.declares ({ cls := "java/lang/Object", name := "clone", desc := "()Ljava/lang/Object;" } : Jvm.MethodName)).before a0 Z = true := hw _ (List.mem_of_getElem? (i := 71) rfl)
theorem w72 {Z : State} {a0 : Array Value} (hw : ∀ d ∈ tables_1, d.before a0 Z = true) : (Jvm.Cond.instanceMethod ({ cls := "java/lang/Object", name := "clone", desc := "()Ljava/lang/Object;" } : Jvm.MethodName)).before a0 Z = true := hw _ (List.mem_of_getElem? (i := 72) rfl)
theorem w73 {Z : State} {a0 : Array Value} (hw : ∀ d ∈ tables_1, d.before a0 Z = true) : (Jvm.Cond.selects "[B" ({ cls := "[B", name := "clone", desc := "()Ljava/lang/Object;" } : Jvm.MethodName) ({ cls := "java/lang/Object", name := "clone", desc := "()Ljava/lang/Object;" } : Jvm.MethodName)).before a0 Z = true := hw _ (List.mem_of_getElem? (i := 73) rfl)
theorem w74 {Z : State} {a0 : Array Value} (hw : ∀ d ∈ tables_1, d.before a0 Z = true) : (Jvm.Cond.native ({ cls := "java/lang/Object", name := "clone", desc := "()Ljava/lang/Object;" } : Jvm.MethodName)).before a0 Z = true := hw _ (List.mem_of_getElem? (i := 74) rfl)
theorem w75 {Z : State} {a0 : Array Value} (hw : ∀ d ∈ tables_1, d.before a0 Z = true) : (Jvm.Cond.castable "[B" "java/lang/Cloneable").before a0 Z = true := hw _ (List.mem_of_getElem? (i := 75) rfl)
theorem w76 {Z : State} {a0 : Array Value} (hw : ∀ d ∈ tables_1, d.before a0 Z = true) : (Jvm.Cond.classLink "java/util/Arrays" (311 : Nat) "[B").before a0 Z = true := hw _ (List.mem_of_getElem? (i := 76) rfl)
theorem w77 {Z : State} {a0 : Array Value} (hw : ∀ d ∈ tables_1, d.before a0 Z = true) : (Jvm.Cond.castable "[B" "[B").before a0 Z = true := hw _ (List.mem_of_getElem? (i := 77) rfl)
theorem w78 {Z : State} {a0 : Array Value} (hw : ∀ d ∈ tables_1, d.before a0 Z = true) : (Jvm.Cond.fieldLink "java/lang/String" (9 : Nat) "java/lang/String" "value" "[B").before a0 Z = true := hw _ (List.mem_of_getElem? (i := 78) rfl)
theorem w79 {Z : State} {a0 : Array Value} (hw : ∀ d ∈ tables_1, d.before a0 Z = true) : (Jvm.Cond.laysFinal "java/lang/String" "java/lang/String" "value" "[B").before a0 Z = true := hw _ (List.mem_of_getElem? (i := 79) rfl)
theorem w80 {Z : State} {a0 : Array Value} (hw : ∀ d ∈ tables_1, d.before a0 Z = true) : (Jvm.Cond.methodLink "com/example/encase/encase/codec/Base32EncodePinLaw" (14 : Nat) ({ cls := "java/lang/Math", name := "min", desc := "(II)I" } : Jvm.MethodName)).before a0 Z = true := hw _ (List.mem_of_getElem? (i := 80) rfl)
theorem w81 {Z : State} {a0 : Array Value} (hw : ∀ d ∈ tables_1, d.before a0 Z = true) : (Jvm.Cond.static ({ cls := "java/lang/Math", name := "min", desc := "(II)I" } : Jvm.MethodName)).before a0 Z = true := hw _ (List.mem_of_getElem? (i := 81) rfl)
theorem w82 {Z : State} {a0 : Array Value} (hw : ∀ d ∈ tables_1, d.before a0 Z = true) : (Jvm.Cond.initialized "java/lang/Math").before a0 Z = true := hw _ (List.mem_of_getElem? (i := 82) rfl)
theorem w83 {Z : State} {a0 : Array Value} (hw : ∀ d ∈ tables_1, d.before a0 Z = true) : (Jvm.Cond.code ({ cls := "java/lang/Math", name := "min", desc := "(II)I" } : Jvm.MethodName) jdk_29_method_69_code (2 : Nat) (Option.some Jvm.ClassFile.FieldType.int)).before a0 Z = true := hw _ (List.mem_of_getElem? (i := 83) rfl)
theorem w84 {Z : State} {a0 : Array Value} (hw : ∀ d ∈ tables_1, d.before a0 Z = true) : (Jvm.Cond.methodLink "com/example/encase/encase/codec/Base32EncodePinLaw" (20 : Nat) ({ cls := "java/lang/Math", name := "max", desc := "(II)I" } : Jvm.MethodName)).before a0 Z = true := hw _ (List.mem_of_getElem? (i := 84) rfl)
theorem w85 {Z : State} {a0 : Array Value} (hw : ∀ d ∈ tables_1, d.before a0 Z = true) : (Jvm.Cond.static ({ cls := "java/lang/Math", name := "max", desc := "(II)I" } : Jvm.MethodName)).before a0 Z = true := hw _ (List.mem_of_getElem? (i := 85) rfl)
theorem w86 {Z : State} {a0 : Array Value} (hw : ∀ d ∈ tables_1, d.before a0 Z = true) : (Jvm.Cond.code ({ cls := "java/lang/Math", name := "max", desc := "(II)I" } : Jvm.MethodName) jdk_29_method_65_code (2 : Nat) (Option.some Jvm.ClassFile.FieldType.int)).before a0 Z = true := hw _ (List.mem_of_getElem? (i := 86) rfl)
theorem w87 {Z : State} {a0 : Array Value} (hw : ∀ d ∈ tables_1, d.before a0 Z = true) : (Jvm.Cond.methodLink "com/example/encase/encase/codec/Base32EncodePinLaw" (23 : Nat) ({ cls := "com/example/encase/encase/codec/Base32EncodePinLaw", name := "keep", desc := "(JI)J" } : Jvm.MethodName)).before a0 Z = true := hw _ (List.mem_of_getElem? (i := 87) rfl)
theorem w88 {Z : State} {a0 : Array Value} (hw : ∀ d ∈ tables_1, d.before a0 Z = true) : (Jvm.Cond.static ({ cls := "com/example/encase/encase/codec/Base32EncodePinLaw", name := "keep", desc := "(JI)J" } : Jvm.MethodName)).before a0 Z = true := hw _ (List.mem_of_getElem? (i := 88) rfl)
theorem w89 {Z : State} {a0 : Array Value} (hw : ∀ d ∈ tables_1, d.before a0 Z = true) : (Jvm.Cond.initialized "com/example/encase/encase/codec/Base32EncodePinLaw").before a0 Z = true := hw _ (List.mem_of_getElem? (i := 89) rfl)
theorem w90 {Z : State} {a0 : Array Value} (hw : ∀ d ∈ tables_1, d.before a0 Z = true) : (Jvm.Cond.code ({ cls := "com/example/encase/encase/codec/Base32EncodePinLaw", name := "keep", desc := "(JI)J" } : Jvm.MethodName) method_3_code (7 : Nat) (Option.some Jvm.ClassFile.FieldType.long)).before a0 Z = true := hw _ (List.mem_of_getElem? (i := 90) rfl)
theorem w91 {Z : State} {a0 : Array Value} (hw : ∀ d ∈ tables_1, d.before a0 Z = true) : (Jvm.Cond.constantLong "com/example/encase/encase/codec/Base32EncodePinLaw" (47 : Nat) (1099511627775 : Int64)).before a0 Z = true := hw _ (List.mem_of_getElem? (i := 91) rfl)
theorem w92 {Z : State} {a0 : Array Value} (hw : ∀ d ∈ tables_1, d.before a0 Z = true) : (Jvm.Cond.constantLong "com/example/encase/encase/codec/Base32EncodePinLaw" (49 : Nat) (-1 : Int64)).before a0 Z = true := hw _ (List.mem_of_getElem? (i := 92) rfl)
theorem w93 {Z : State} {a0 : Array Value} (hw : ∀ d ∈ tables_1, d.before a0 Z = true) : (Jvm.Cond.arrayClass Jvm.ClassFile.FieldType.char).before a0 Z = true := hw _ (List.mem_of_getElem? (i := 93) rfl)
theorem w94 {Z : State} {a0 : Array Value} (hw : ∀ d ∈ tables_1, d.before a0 Z = true) : (Jvm.Cond.methodLink "com/example/encase/encase/codec/Base32EncodePinLaw" (29 : Nat) ({ cls := "com/example/encase/encase/codec/Base32EncodePinLaw", name := "g", desc := "(JI)I" } : Jvm.MethodName)).before a0 Z = true := hw _ (List.mem_of_getElem? (i := 94) rfl)
theorem w95 {Z : State} {a0 : Array Value} (hw : ∀ d ∈ tables_1, d.before a0 Z = true) : (Jvm.Cond.static ({ cls := "com/example/encase/encase/codec/Base32EncodePinLaw", name := "g", desc := "(JI)I" } : Jvm.MethodName)).before a0 Z = true := hw _ (List.mem_of_getElem? (i := 95) rfl)
theorem w96 {Z : State} {a0 : Array Value} (hw : ∀ d ∈ tables_1, d.before a0 Z = true) : (Jvm.Cond.code ({ cls := "com/example/encase/encase/codec/Base32EncodePinLaw", name := "g", desc := "(JI)I" } : Jvm.MethodName) method_4_code (3 : Nat) (Option.some Jvm.ClassFile.FieldType.int)).before a0 Z = true := hw _ (List.mem_of_getElem? (i := 96) rfl)
theorem w97 {Z : State} {a0 : Array Value} (hw : ∀ d ∈ tables_1, d.before a0 Z = true) : (Jvm.Cond.constantLong "com/example/encase/encase/codec/Base32EncodePinLaw" (51 : Nat) (31 : Int64)).before a0 Z = true := hw _ (List.mem_of_getElem? (i := 97) rfl)
theorem w98 {Z : State} {a0 : Array Value} (hw : ∀ d ∈ tables_1, d.before a0 Z = true) : (Jvm.Cond.methodLink "com/example/encase/encase/codec/Base32EncodePinLaw" (33 : Nat) ({ cls := "com/example/encase/encase/codec/Base32EncodePinLaw", name := "sym", desc := "(I)C" } : Jvm.MethodName)).before a0 Z = true := hw _ (List.mem_of_getElem? (i := 98) rfl)
theorem w99 {Z : State} {a0 : Array Value} (hw : ∀ d ∈ tables_1, d.before a0 Z = true) : (Jvm.Cond.static ({ cls := "com/example/encase/encase/codec/Base32EncodePinLaw", name := "sym", desc := "(I)C" } : Jvm.MethodName)).before a0 Z = true := hw _ (List.mem_of_getElem? (i := 99) rfl)
theorem w100 {Z : State} {a0 : Array Value} (hw : ∀ d ∈ tables_1, d.before a0 Z = true) : (Jvm.Cond.code ({ cls := "com/example/encase/encase/codec/Base32EncodePinLaw", name := "sym", desc := "(I)C" } : Jvm.MethodName) method_5_code (1 : Nat) (Option.some Jvm.ClassFile.FieldType.char)).before a0 Z = true := hw _ (List.mem_of_getElem? (i := 100) rfl)
theorem w101 {Z : State} {a0 : Array Value} (hw : ∀ d ∈ tables_1, d.before a0 Z = true) : (Jvm.Cond.methodLink "com/example/encase/encase/codec/Base32EncodePinLaw" (37 : Nat) ({ cls := "java/lang/String", name := "length", desc := "()I" } : Jvm.MethodName)).before a0 Z = true := hw _ (List.mem_of_getElem? (i := 101) rfl)
theorem w102 {Z : State} {a0 : Array Value} (hw : ∀ d ∈ tables_1, d.before a0 Z = true) : (Jvm.Cond.declares ({ cls := "java/lang/String", name := "length", desc := "()I" } : Jvm.MethodName)).before a0 Z = true := hw _ (List.mem_of_getElem? (i := 102) rfl)
theorem w103 {Z : State} {a0 : Array Value} (hw : ∀ d ∈ tables_1, d.before a0 Z = true) : (Jvm.Cond.instanceMethod ({ cls := "java/lang/String", name := "length", desc := "()I" } : Jvm.MethodName)).before a0 Z = true := hw _ (List.mem_of_getElem? (i := 103) rfl)
theorem w104 {Z : State} {a0 : Array Value} (hw : ∀ d ∈ tables_1, d.before a0 Z = true) : (Jvm.Cond.selects "java/lang/String" ({ cls := "java/lang/String", name := "length", desc := "()I" } : Jvm.MethodName) ({ cls := "java/lang/String", name := "length", desc := "()I" } : Jvm.MethodName)).before a0 Z = true := hw _ (List.mem_of_getElem? (i := 104) rfl)
theorem w105 {Z : State} {a0 : Array Value} (hw : ∀ d ∈ tables_1, d.before a0 Z = true) : (Jvm.Cond.code ({ cls := "java/lang/String", name := "length", desc := "()I" } : Jvm.MethodName) jdk_42_method_54_code (1 : Nat) (Option.some Jvm.ClassFile.FieldType.int)).before a0 Z = true := hw _ (List.mem_of_getElem? (i := 105) rfl)
theorem w106 {Z : State} {a0 : Array Value} (hw : ∀ d ∈ tables_1, d.before a0 Z = true) : (Jvm.Cond.methodLink "java/lang/String" (335 : Nat) ({ cls := "java/lang/String", name := "coder", desc := "()B" } : Jvm.MethodName)).before a0 Z = true := hw _ (List.mem_of_getElem? (i := 106) rfl)
theorem w107 {Z : State} {a0 : Array Value} (hw : ∀ d ∈ tables_1, d.before a0 Z = true) : (Jvm.Cond.declares ({ cls := "java/lang/String", name := "coder", desc := "()B" } : Jvm.MethodName)).before a0 Z = true := hw _ (List.mem_of_getElem? (i := 107) rfl)
theorem w108 {Z : State} {a0 : Array Value} (hw : ∀ d ∈ tables_1, d.before a0 Z = true) : (Jvm.Cond.instanceMethod ({ cls := "java/lang/String", name := "coder", desc := "()B" } : Jvm.MethodName)).before a0 Z = true := hw _ (List.mem_of_getElem? (i := 108) rfl)
theorem w109 {Z : State} {a0 : Array Value} (hw : ∀ d ∈ tables_1, d.before a0 Z = true) : (Jvm.Cond.selects "java/lang/String" ({ cls := "java/lang/String", name := "coder", desc := "()B" } : Jvm.MethodName) ({ cls := "java/lang/String", name := "coder", desc := "()B" } : Jvm.MethodName)).before a0 Z = true := hw _ (List.mem_of_getElem? (i := 109) rfl)
theorem w110 {Z : State} {a0 : Array Value} (hw : ∀ d ∈ tables_1, d.before a0 Z = true) : (Jvm.Cond.code ({ cls := "java/lang/String", name := "coder", desc := "()B" } : Jvm.MethodName) jdk_42_method_152_code (1 : Nat) (Option.some Jvm.ClassFile.FieldType.byte)).before a0 Z = true := hw _ (List.mem_of_getElem? (i := 110) rfl)
theorem w111 {Z : State} {a0 : Array Value} (hw : ∀ d ∈ tables_1, d.before a0 Z = true) : (Jvm.Cond.fieldLink "java/lang/String" (38 : Nat) "java/lang/String" "COMPACT_STRINGS" "Z").before a0 Z = true := hw _ (List.mem_of_getElem? (i := 111) rfl)
theorem w112 {Z : State} {a0 : Array Value} (hw : ∀ d ∈ tables_1, d.before a0 Z = true) : (Jvm.Cond.methodLink "com/example/encase/encase/codec/Base32EncodePinLaw" (43 : Nat) ({ cls := "com/example/encase/encase/codec/Base32EncodePinLaw", name := "at", desc := "(Ljava/lang/String;[CII)Z" } : Jvm.MethodName)).before a0 Z = true := hw _ (List.mem_of_getElem? (i := 112) rfl)
theorem w113 {Z : State} {a0 : Array Value} (hw : ∀ d ∈ tables_1, d.before a0 Z = true) : (Jvm.Cond.static ({ cls := "com/example/encase/encase/codec/Base32EncodePinLaw", name := "at", desc := "(Ljava/lang/String;[CII)Z" } : Jvm.MethodName)).before a0 Z = true := hw _ (List.mem_of_getElem? (i := 113) rfl)
theorem w114 {Z : State} {a0 : Array Value} (hw : ∀ d ∈ tables_1, d.before a0 Z = true) : (Jvm.Cond.code ({ cls := "com/example/encase/encase/codec/Base32EncodePinLaw", name := "at", desc := "(Ljava/lang/String;[CII)Z" } : Jvm.MethodName) method_6_code (4 : Nat) (Option.some Jvm.ClassFile.FieldType.boolean)).before a0 Z = true := hw _ (List.mem_of_getElem? (i := 114) rfl)
theorem w115 {Z : State} {a0 : Array Value} (hw : ∀ d ∈ tables_1, d.before a0 Z = true) : (Jvm.Cond.fieldLink "com/example/encase/encase/codec/Base32" (12 : Nat) "com/example/encase/encase/codec/Base32" "ALPHABET" "[C").before a0 Z = true := hw _ (List.mem_of_getElem? (i := 115) rfl)
theorem w116 {Z : State} {a0 : Array Value} (hw : ∀ d ∈ tables_1, d.before a0 Z = true) : (Jvm.Cond.laysStatic "com/example/encase/encase/codec/Base32" "ALPHABET" "[C").before a0 Z = true := hw _ (List.mem_of_getElem? (i := 116) rfl)
theorem w117 {Z : State} {a0 : Array Value} (hw : ∀ d ∈ tables_1, d.before a0 Z = true) : (Jvm.Cond.methodLink "com/example/encase/encase/codec/Base32" (18 : Nat) ({ cls := "java/lang/StringBuilder", name := "append", desc := "(C)Ljava/lang/StringBuilder;" } : Jvm.MethodName)).before a0 Z = true := hw _ (List.mem_of_getElem? (i := 117) rfl)
theorem w118 {Z : State} {a0 : Array Value} (hw : ∀ d ∈ tables_1, d.before a0 Z = true) : (Jvm.Cond.declares ({ cls := "java/lang/StringBuilder", name := "append", desc := "(C)Ljava/lang/StringBuilder;" } : Jvm.MethodName)).before a0 Z = true := hw _ (List.mem_of_getElem? (i := 118) rfl)
theorem w119 {Z : State} {a0 : Array Value} (hw : ∀ d ∈ tables_1, d.before a0 Z = true) : (Jvm.Cond.instanceMethod ({ cls := "java/lang/StringBuilder", name := "append", desc := "(C)Ljava/lang/StringBuilder;" } : Jvm.MethodName)).before a0 Z = true := hw _ (List.mem_of_getElem? (i := 119) rfl)
theorem w120 {Z : State} {a0 : Array Value} (hw : ∀ d ∈ tables_1, d.before a0 Z = true) : (Jvm.Cond.selects "java/lang/StringBuilder" ({ cls := "java/lang/StringBuilder", name := "append", desc := "(C)Ljava/lang/StringBuilder;" } : Jvm.MethodName) ({ cls := "java/lang/StringBuilder", name := "append", desc := "(C)Ljava/lang/StringBuilder;" } : Jvm.MethodName)).before a0 Z = true := hw _ (List.mem_of_getElem? (i := 120) rfl)
theorem w121 {Z : State} {a0 : Array Value} (hw : ∀ d ∈ tables_1, d.before a0 Z = true) : (Jvm.Cond.code ({ cls := "java/lang/StringBuilder", name := "append", desc := "(C)Ljava/lang/StringBuilder;" } : Jvm.MethodName) jdk_67_method_14_code (2 : Nat) (Option.some (Jvm.ClassFile.FieldType.object "java/lang/StringBuilder"))).before a0 Z = true := hw _ (List.mem_of_getElem? (i := 121) rfl)
theorem w122 {Z : State} {a0 : Array Value} (hw : ∀ d ∈ tables_1, d.before a0 Z = true) : (Jvm.Cond.methodLink "java/lang/StringBuilder" (50 : Nat) ({ cls := "java/lang/AbstractStringBuilder", name := "append", desc := "(C)Ljava/lang/AbstractStringBuilder;" } : Jvm.MethodName)).before a0 Z = true := hw _ (List.mem_of_getElem? (i := 122) rfl)
theorem w123 {Z : State} {a0 : Array Value} (hw : ∀ d ∈ tables_1, d.before a0 Z = true) : (Jvm.Cond.instanceMethod ({ cls := "java/lang/AbstractStringBuilder", name := "append", desc := "(C)Ljava/lang/AbstractStringBuilder;" } : Jvm.MethodName)).before a0 Z = true := hw _ (List.mem_of_getElem? (i := 123) rfl)
theorem w124 {Z : State} {a0 : Array Value} (hw : ∀ d ∈ tables_1, d.before a0 Z = true) : (Jvm.Cond.declares ({ cls := "java/lang/AbstractStringBuilder", name := "append", desc := "(C)Ljava/lang/AbstractStringBuilder;" } : Jvm.MethodName)).before a0 Z = true := hw _ (List.mem_of_getElem? (i := 124) rfl)
theorem w125 {Z : State} {a0 : Array Value} (hw : ∀ d ∈ tables_1, d.before a0 Z = true) : (Jvm.Cond.code ({ cls := "java/lang/AbstractStringBuilder", name := "append", desc := "(C)Ljava/lang/AbstractStringBuilder;" } : Jvm.MethodName) jdk_68_method_31_code (2 : Nat) (Option.some (Jvm.ClassFile.FieldType.object "java/lang/AbstractStringBuilder"))).before a0 Z = true := hw _ (List.mem_of_getElem? (i := 125) rfl)
theorem w126 {Z : State} {a0 : Array Value} (hw : ∀ d ∈ tables_1, d.before a0 Z = true) : (Jvm.Cond.methodLink "java/lang/AbstractStringBuilder" (100 : Nat) ({ cls := "java/lang/AbstractStringBuilder", name := "ensureCapacityInternal", desc := "(I)V" } : Jvm.MethodName)).before a0 Z = true := hw _ (List.mem_of_getElem? (i := 126) rfl)
theorem w127 {Z : State} {a0 : Array Value} (hw : ∀ d ∈ tables_1, d.before a0 Z = true) : (Jvm.Cond.instanceMethod ({ cls := "java/lang/AbstractStringBuilder", name := "ensureCapacityInternal", desc := "(I)V" } : Jvm.MethodName)).before a0 Z = true := hw _ (List.mem_of_getElem? (i := 127) rfl)
theorem w128 {Z : State} {a0 : Array Value} (hw : ∀ d ∈ tables_1, d.before a0 Z = true) : (Jvm.Cond.privateMethod ({ cls := "java/lang/AbstractStringBuilder", name := "ensureCapacityInternal", desc := "(I)V" } : Jvm.MethodName)).before a0 Z = true := hw _ (List.mem_of_getElem? (i := 128) rfl)
theorem w129 {Z : State} {a0 : Array Value} (hw : ∀ d ∈ tables_1, d.before a0 Z = true) : (Jvm.Cond.selects "java/lang/StringBuilder" ({ cls := "java/lang/AbstractStringBuilder", name := "ensureCapacityInternal", desc := "(I)V" } : Jvm.MethodName) ({ cls := "java/lang/AbstractStringBuilder", name := "ensureCapacityInternal", desc := "(I)V" } : Jvm.MethodName)).before a0 Z = true := hw _ (List.mem_of_getElem? (i := 129) rfl)
theorem w130 {Z : State} {a0 : Array Value} (hw : ∀ d ∈ tables_1, d.before a0 Z = true) : (Jvm.Cond.code ({ cls := "java/lang/AbstractStringBuilder", name := "ensureCapacityInternal", desc := "(I)V" } : Jvm.MethodName) jdk_68_method_9_code (3 : Nat) (Option.none : Option Jvm.ClassFile.FieldType)).before a0 Z = true := hw _ (List.mem_of_getElem? (i := 130) rfl)
theorem w131 {Z : State} {a0 : Array Value} (hw : ∀ d ∈ tables_1, d.before a0 Z = true) : (Jvm.Cond.methodLink "java/lang/AbstractStringBuilder" (83 : Nat) ({ cls := "java/lang/AbstractStringBuilder", name := "isLatin1", desc := "()Z" } : Jvm.MethodName)).before a0 Z = true := hw _ (List.mem_of_getElem? (i := 131) rfl)
theorem w132 {Z : State} {a0 : Array Value} (hw : ∀ d ∈ tables_1, d.before a0 Z = true) : (Jvm.Cond.methodLink "java/lang/AbstractStringBuilder" (191 : Nat) ({ cls := "java/lang/StringLatin1", name := "canEncode", desc := "(C)Z" } : Jvm.MethodName)).before a0 Z = true := hw _ (List.mem_of_getElem? (i := 132) rfl)
theorem w133 {Z : State} {a0 : Array Value} (hw : ∀ d ∈ tables_1, d.before a0 Z = true) : (Jvm.Cond.static ({ cls := "java/lang/StringLatin1", name := "canEncode", desc := "(C)Z" } : Jvm.MethodName)).before a0 Z = true := hw _ (List.mem_of_getElem? (i := 133) rfl)
theorem w134 {Z : State} {a0 : Array Value} (hw : ∀ d ∈ tables_1, d.before a0 Z = true) : (Jvm.Cond.initialized "java/lang/StringLatin1").before a0 Z = true := hw _ (List.mem_of_getElem? (i := 134) rfl)
theorem w135 {Z : State} {a0 : Array Value} (hw : ∀ d ∈ tables_1, d.before a0 Z = true) : (Jvm.Cond.code ({ cls := "java/lang/StringLatin1", name := "canEncode", desc := "(C)Z" } : Jvm.MethodName) jdk_43_method_3_code (1 : Nat) (Option.some Jvm.ClassFile.FieldType.boolean)).before a0 Z = true := hw _ (List.mem_of_getElem? (i := 135) rfl)
theorem w136 {Z : State} {a0 : Array Value} (hw : ∀ d ∈ tables_1, d.before a0 Z = true) : (Jvm.Cond.methodLink "com/example/encase/encase/codec/Base32EncodePinLaw" (53 : Nat) ({ cls := "java/lang/String", name := "charAt", desc := "(I)C" } : Jvm.MethodName)).before a0 Z = true := hw _ (List.mem_of_getElem? (i := 136) rfl)
theorem w137 {Z : State} {a0 : Array Value} (hw : ∀ d ∈ tables_1, d.before a0 Z = true) : (Jvm.Cond.declares ({ cls := "java/lang/String", name := "charAt", desc := "(I)C" } : Jvm.MethodName)).before a0 Z = true := hw _ (List.mem_of_getElem? (i := 137) rfl)
theorem w138 {Z : State} {a0 : Array Value} (hw : ∀ d ∈ tables_1, d.before a0 Z = true) : (Jvm.Cond.instanceMethod ({ cls := "java/lang/String", name := "charAt", desc := "(I)C" } : Jvm.MethodName)).before a0 Z = true := hw _ (List.mem_of_getElem? (i := 138) rfl)
theorem w139 {Z : State} {a0 : Array Value} (hw : ∀ d ∈ tables_1, d.before a0 Z = true) : (Jvm.Cond.selects "java/lang/String" ({ cls := "java/lang/String", name := "charAt", desc := "(I)C" } : Jvm.MethodName) ({ cls := "java/lang/String", name := "charAt", desc := "(I)C" } : Jvm.MethodName)).before a0 Z = true := hw _ (List.mem_of_getElem? (i := 139) rfl)
theorem w140 {Z : State} {a0 : Array Value} (hw : ∀ d ∈ tables_1, d.before a0 Z = true) : (Jvm.Cond.code ({ cls := "java/lang/String", name := "charAt", desc := "(I)C" } : Jvm.MethodName) jdk_42_method_56_code (2 : Nat) (Option.some Jvm.ClassFile.FieldType.char)).before a0 Z = true := hw _ (List.mem_of_getElem? (i := 140) rfl)
theorem w141 {Z : State} {a0 : Array Value} (hw : ∀ d ∈ tables_1, d.before a0 Z = true) : (Jvm.Cond.methodLink "java/lang/String" (492 : Nat) ({ cls := "java/lang/String", name := "isLatin1", desc := "()Z" } : Jvm.MethodName)).before a0 Z = true := hw _ (List.mem_of_getElem? (i := 141) rfl)
theorem w142 {Z : State} {a0 : Array Value} (hw : ∀ d ∈ tables_1, d.before a0 Z = true) : (Jvm.Cond.declares ({ cls := "java/lang/String", name := "isLatin1", desc := "()Z" } : Jvm.MethodName)).before a0 Z = true := hw _ (List.mem_of_getElem? (i := 142) rfl)
theorem w143 {Z : State} {a0 : Array Value} (hw : ∀ d ∈ tables_1, d.before a0 Z = true) : (Jvm.Cond.instanceMethod ({ cls := "java/lang/String", name := "isLatin1", desc := "()Z" } : Jvm.MethodName)).before a0 Z = true := hw _ (List.mem_of_getElem? (i := 143) rfl)
theorem w144 {Z : State} {a0 : Array Value} (hw : ∀ d ∈ tables_1, d.before a0 Z = true) : (Jvm.Cond.selects "java/lang/String" ({ cls := "java/lang/String", name := "isLatin1", desc := "()Z" } : Jvm.MethodName) ({ cls := "java/lang/String", name := "isLatin1", desc := "()Z" } : Jvm.MethodName)).before a0 Z = true := hw _ (List.mem_of_getElem? (i := 144) rfl)
theorem w145 {Z : State} {a0 : Array Value} (hw : ∀ d ∈ tables_1, d.before a0 Z = true) : (Jvm.Cond.code ({ cls := "java/lang/String", name := "isLatin1", desc := "()Z" } : Jvm.MethodName) jdk_42_method_154_code (1 : Nat) (Option.some Jvm.ClassFile.FieldType.boolean)).before a0 Z = true := hw _ (List.mem_of_getElem? (i := 145) rfl)
theorem w146 {Z : State} {a0 : Array Value} (hw : ∀ d ∈ tables_1, d.before a0 Z = true) : (Jvm.Cond.methodLink "java/lang/String" (495 : Nat) ({ cls := "java/lang/StringLatin1", name := "charAt", desc := "([BI)C" } : Jvm.MethodName)).before a0 Z = true := hw _ (List.mem_of_getElem? (i := 146) rfl)
theorem w147 {Z : State} {a0 : Array Value} (hw : ∀ d ∈ tables_1, d.before a0 Z = true) : (Jvm.Cond.static ({ cls := "java/lang/StringLatin1", name := "charAt", desc := "([BI)C" } : Jvm.MethodName)).before a0 Z = true := hw _ (List.mem_of_getElem? (i := 147) rfl)
theorem w148 {Z : State} {a0 : Array Value} (hw : ∀ d ∈ tables_1, d.before a0 Z = true) : (Jvm.Cond.code ({ cls := "java/lang/StringLatin1", name := "charAt", desc := "([BI)C" } : Jvm.MethodName) jdk_43_method_2_code (2 : Nat) (Option.some Jvm.ClassFile.FieldType.char)).before a0 Z = true := hw _ (List.mem_of_getElem? (i := 148) rfl)
theorem w149 {Z : State} {a0 : Array Value} (hw : ∀ d ∈ tables_1, d.before a0 Z = true) : (Jvm.Cond.methodLink "java/lang/StringLatin1" (9 : Nat) ({ cls := "java/lang/String", name := "checkIndex", desc := "(II)V" } : Jvm.MethodName)).before a0 Z = true := hw _ (List.mem_of_getElem? (i := 149) rfl)
theorem w150 {Z : State} {a0 : Array Value} (hw : ∀ d ∈ tables_1, d.before a0 Z = true) : (Jvm.Cond.static ({ cls := "java/lang/String", name := "checkIndex", desc := "(II)V" } : Jvm.MethodName)).before a0 Z = true := hw _ (List.mem_of_getElem? (i := 150) rfl)
theorem w151 {Z : State} {a0 : Array Value} (hw : ∀ d ∈ tables_1, d.before a0 Z = true) : (Jvm.Cond.code ({ cls := "java/lang/String", name := "checkIndex", desc := "(II)V" } : Jvm.MethodName) jdk_42_method_155_code (2 : Nat) (Option.none : Option Jvm.ClassFile.FieldType)).before a0 Z = true := hw _ (List.mem_of_getElem? (i := 151) rfl)
theorem w152 {Z : State} {a0 : Array Value} (hw : ∀ d ∈ tables_1, d.before a0 Z = true) : (Jvm.Cond.fieldLink "java/lang/String" (1053 : Nat) "jdk/internal/util/Preconditions" "SIOOBE_FORMATTER" "Ljava/util/function/BiFunction;").before a0 Z = true := hw _ (List.mem_of_getElem? (i := 152) rfl)
theorem w153 {Z : State} {a0 : Array Value} (hw : ∀ d ∈ tables_1, d.before a0 Z = true) : (Jvm.Cond.initialized "jdk/internal/util/Preconditions").before a0 Z = true := hw _ (List.mem_of_getElem? (i := 153) rfl)
theorem w154 {Z : State} {a0 : Array Value} (hw : ∀ d ∈ tables_1, d.before a0 Z = true) : (Jvm.Cond.methodLink "java/lang/String" (1059 : Nat) ({ cls := "jdk/internal/util/Preconditions", name := "checkIndex", desc := "(IILjava/util/function/BiFunction;)I" } : Jvm.MethodName)).before a0 Z = true := hw _ (List.mem_of_getElem? (i := 154) rfl)
theorem w155 {Z : State} {a0 : Array Value} (hw : ∀ d ∈ tables_1, d.before a0 Z = true) : (Jvm.Cond.static ({ cls := "jdk/internal/util/Preconditions", name := "checkIndex", desc := "(IILjava/util/function/BiFunction;)I" } : Jvm.MethodName)).before a0 Z = true := hw _ (List.mem_of_getElem? (i := 155) rfl)
theorem w156 {Z : State} {a0 : Array Value} (hw : ∀ d ∈ tables_1, d.before a0 Z = true) : (Jvm.Cond.code ({ cls := "jdk/internal/util/Preconditions", name := "checkIndex", desc := "(IILjava/util/function/BiFunction;)I" } : Jvm.MethodName) jdk_41_method_11_code (3 : Nat) (Option.some Jvm.ClassFile.FieldType.int)).before a0 Z = true := hw _ (List.mem_of_getElem? (i := 156) rfl)
def own_bf (b x : Int32) : Int32 := (b <<< ((8 : Int32) &&& 31)) ||| (x &&& (255 : Int32))
theorem own_bf_m (b x : Int32) : (own_bf b x).toInt % 65536 = (b.toInt % 256) * 256 + x.toInt % 256 := by
  have h1 := c_ishl b 8 8 (by decide)
  have h2 := c_mask x 255 8 (by decide) (by decide)
  have h3 := c_or (b <<< ((8 : Int32) &&& 31)) (x &&& 255) 8 (by decide) 256 (by decide)
  simp only [own_bf]
  generalize b <<< ((8 : Int32) &&& 31) = B at *
  generalize x &&& (255 : Int32) = X at *
  omega
def own_al (z : Int32) : Int32 := if z < 26 then z + 97 else z + 24
def own_sym (z : Int32) : Int32 := if ¬ z < 26 then (50 + (z - 26)).toUInt32.toUInt16.toUInt32.toInt32 else (97 + z).toUInt32.toUInt16.toUInt32.toInt32
def own_alist : List Value := (List.range 32).map fun i => Value.int (own_al (Int32.ofNat i))
theorem own_m31 (x : Int32) : ∃ i : Fin 32, x &&& 31 = Int32.ofNat i.1 := by
  have h := n_and x 31 (by decide); have e : (31 : Int32).toInt = 31 := rfl
  exact n_nat (x &&& 31) 32 h.1 (by omega)
theorem own_ix1 (x : Int32) : (x &&& 31).toInt = ((x &&& 31).toInt.toNat : Int) := by
  have h := n_and x 31 (by decide); omega
theorem own_ix2 (x : Int32) : own_alist[(x &&& 31).toInt.toNat]? = some (.int (own_al (x &&& 31))) := by
  obtain ⟨i, e⟩ := own_m31 x
  rw [e]; clear e; revert i; decide
theorem own_al255 (x : Int32) : ¬ 255 < own_al (x &&& 31) := by
  obtain ⟨i, e⟩ := own_m31 x
  rw [e]; clear e; revert i; decide
def own_ch (b : Int32) : Int32 := nar .char (nar .char ((b &&& 255).toUInt32.toUInt16.toUInt32.toInt32))
theorem own_fin (x : Int32) : own_ch (nar .byte (own_al (x &&& 31)).toInt8.toInt32) = nar .char (nar .char (own_sym (x &&& 31))) := by
  obtain ⟨i, e⟩ := own_m31 x
  rw [e]; clear e; revert i; decide
theorem own_ushr0 (b : Int32) : XT.ushr b 0 = b := by
  show (b.toUInt32 >>> ((0 : Int32) &&& 31).toUInt32).toInt32 = b
  have e : ((0 : Int32) &&& 31).toUInt32 = 0 := by decide
  rw [e]; simp
def own_keep (v : Int64) (n : Int32) : Int64 := (v &&& 1099511627775) &&& ((((1 : Int64) <<< (((40 - 8 * n).toInt64) &&& 63)) - 1) ^^^ -1)
def own_g (w : Int64) (k : Int32) : Int32 := ((XT.ushrL w (35 - 5 * k)) &&& 31).toInt32
theorem own_clear (x y : BitVec 64) : (x &&& ~~~y) = x - (x &&& y) := by
  have h : (x &&& ~~~y) + (x &&& y) = x := by
    rw [BitVec.add_eq_or_of_and_eq_zero]
    · ext i hi; simp; cases x[i] <;> cases y[i] <;> rfl
    · ext i hi; simp; cases x[i] <;> cases y[i] <;> simp
  have h2 := congrArg (· - (x &&& y)) h
  simpa [BitVec.add_sub_cancel] using h2
theorem own_ix_0 (b : Int32) : ((XT.ushr b 0) &&& 31).toInt = (b.toInt % 65536) / 1 % 32 := by
  rw [own_ushr0]
  have h := c_mask b 31 5 (by decide) (by decide)
  omega
theorem own_ix_1 (b : Int32) : ((XT.ushr b 1) &&& 31).toInt = (b.toInt % 65536) / 2 % 32 := by
  have h := c_mask (XT.ushr b 1) 31 5 (by decide) (by decide)
  have h2 := c_iushr b 1 1 (by decide) (by decide)
  change (XT.ushr b 1).toInt = _ at h2
  generalize XT.ushr b 1 = q at *
  omega
theorem own_ix_2 (b : Int32) : ((XT.ushr b 2) &&& 31).toInt = (b.toInt % 65536) / 4 % 32 := by
  have h := c_mask (XT.ushr b 2) 31 5 (by decide) (by decide)
  have h2 := c_iushr b 2 2 (by decide) (by decide)
  change (XT.ushr b 2).toInt = _ at h2
  generalize XT.ushr b 2 = q at *
  omega
theorem own_ix_3 (b : Int32) : ((XT.ushr b 3) &&& 31).toInt = (b.toInt % 65536) / 8 % 32 := by
  have h := c_mask (XT.ushr b 3) 31 5 (by decide) (by decide)
  have h2 := c_iushr b 3 3 (by decide) (by decide)
  change (XT.ushr b 3).toInt = _ at h2
  generalize XT.ushr b 3 = q at *
  omega
theorem own_ix_4 (b : Int32) : ((XT.ushr b 4) &&& 31).toInt = (b.toInt % 65536) / 16 % 32 := by
  have h := c_mask (XT.ushr b 4) 31 5 (by decide) (by decide)
  have h2 := c_iushr b 4 4 (by decide) (by decide)
  change (XT.ushr b 4).toInt = _ at h2
  generalize XT.ushr b 4 = q at *
  omega
theorem own_ix_5 (b : Int32) : ((XT.ushr b 5) &&& 31).toInt = (b.toInt % 65536) / 32 % 32 := by
  have h := c_mask (XT.ushr b 5) 31 5 (by decide) (by decide)
  have h2 := c_iushr b 5 5 (by decide) (by decide)
  change (XT.ushr b 5).toInt = _ at h2
  generalize XT.ushr b 5 = q at *
  omega
theorem own_ix_6 (b : Int32) : ((XT.ushr b 6) &&& 31).toInt = (b.toInt % 65536) / 64 % 32 := by
  have h := c_mask (XT.ushr b 6) 31 5 (by decide) (by decide)
  have h2 := c_iushr b 6 6 (by decide) (by decide)
  change (XT.ushr b 6).toInt = _ at h2
  generalize XT.ushr b 6 = q at *
  omega
theorem own_ix_7 (b : Int32) : ((XT.ushr b 7) &&& 31).toInt = (b.toInt % 65536) / 128 % 32 := by
  have h := c_mask (XT.ushr b 7) 31 5 (by decide) (by decide)
  have h2 := c_iushr b 7 7 (by decide) (by decide)
  change (XT.ushr b 7).toInt = _ at h2
  generalize XT.ushr b 7 = q at *
  omega
theorem own_iy_1 (b : Int32) : ((b <<< ((1 : Int32) &&& 31)) &&& 31).toInt = (b.toInt * 2) % 32 := by
  have h1 := c_ishl b 1 1 (by decide)
  have h2 := c_mask (b <<< ((1 : Int32) &&& 31)) 31 5 (by decide) (by decide)
  generalize b <<< ((1 : Int32) &&& 31) = q at *
  omega
theorem own_iy_2 (b : Int32) : ((b <<< ((2 : Int32) &&& 31)) &&& 31).toInt = (b.toInt * 4) % 32 := by
  have h1 := c_ishl b 2 2 (by decide)
  have h2 := c_mask (b <<< ((2 : Int32) &&& 31)) 31 5 (by decide) (by decide)
  generalize b <<< ((2 : Int32) &&& 31) = q at *
  omega
theorem own_iy_3 (b : Int32) : ((b <<< ((3 : Int32) &&& 31)) &&& 31).toInt = (b.toInt * 8) % 32 := by
  have h1 := c_ishl b 3 3 (by decide)
  have h2 := c_mask (b <<< ((3 : Int32) &&& 31)) 31 5 (by decide) (by decide)
  generalize b <<< ((3 : Int32) &&& 31) = q at *
  omega
theorem own_iy_4 (b : Int32) : ((b <<< ((4 : Int32) &&& 31)) &&& 31).toInt = (b.toInt * 16) % 32 := by
  have h1 := c_ishl b 4 4 (by decide)
  have h2 := c_mask (b <<< ((4 : Int32) &&& 31)) 31 5 (by decide) (by decide)
  generalize b <<< ((4 : Int32) &&& 31) = q at *
  omega
theorem own_by_32 (a : Int64) : (nar .byte ((XT.ushrL a 32).toInt32.toInt8.toInt32)).toInt % 256 = (a.toInt / 4294967296) % 256 := by
  show ((XT.ushrL a 32).toInt32.toInt8.toInt32.toInt8.toInt32).toInt % 256 = _
  have h1 := c_i2b ((XT.ushrL a 32).toInt32.toInt8.toInt32); have h2 := c_i2b (XT.ushrL a 32).toInt32; have h3 := c_l2i (XT.ushrL a 32)
  have h4 := c_lushr a 32 32 (by decide) (by decide)
  change (XT.ushrL a 32).toInt = _ at h4
  generalize XT.ushrL a 32 = q at *
  omega
theorem own_by_24 (a : Int64) : (nar .byte ((XT.ushrL a 24).toInt32.toInt8.toInt32)).toInt % 256 = (a.toInt / 16777216) % 256 := by
  show ((XT.ushrL a 24).toInt32.toInt8.toInt32.toInt8.toInt32).toInt % 256 = _
  have h1 := c_i2b ((XT.ushrL a 24).toInt32.toInt8.toInt32); have h2 := c_i2b (XT.ushrL a 24).toInt32; have h3 := c_l2i (XT.ushrL a 24)
  have h4 := c_lushr a 24 24 (by decide) (by decide)
  change (XT.ushrL a 24).toInt = _ at h4
  generalize XT.ushrL a 24 = q at *
  omega
theorem own_by_16 (a : Int64) : (nar .byte ((XT.ushrL a 16).toInt32.toInt8.toInt32)).toInt % 256 = (a.toInt / 65536) % 256 := by
  show ((XT.ushrL a 16).toInt32.toInt8.toInt32.toInt8.toInt32).toInt % 256 = _
  have h1 := c_i2b ((XT.ushrL a 16).toInt32.toInt8.toInt32); have h2 := c_i2b (XT.ushrL a 16).toInt32; have h3 := c_l2i (XT.ushrL a 16)
  have h4 := c_lushr a 16 16 (by decide) (by decide)
  change (XT.ushrL a 16).toInt = _ at h4
  generalize XT.ushrL a 16 = q at *
  omega
theorem own_by_8 (a : Int64) : (nar .byte ((XT.ushrL a 8).toInt32.toInt8.toInt32)).toInt % 256 = (a.toInt / 256) % 256 := by
  show ((XT.ushrL a 8).toInt32.toInt8.toInt32.toInt8.toInt32).toInt % 256 = _
  have h1 := c_i2b ((XT.ushrL a 8).toInt32.toInt8.toInt32); have h2 := c_i2b (XT.ushrL a 8).toInt32; have h3 := c_l2i (XT.ushrL a 8)
  have h4 := c_lushr a 8 8 (by decide) (by decide)
  change (XT.ushrL a 8).toInt = _ at h4
  generalize XT.ushrL a 8 = q at *
  omega
theorem own_by_0 (a : Int64) : (nar .byte (a.toInt32.toInt8.toInt32)).toInt % 256 = (a.toInt / 1) % 256 := by
  show (a.toInt32.toInt8.toInt32.toInt8.toInt32).toInt % 256 = _
  have h1 := c_i2b (a.toInt32.toInt8.toInt32); have h2 := c_i2b a.toInt32; have h3 := c_l2i a
  omega
theorem own_keep_0 (a : Int64) : (own_keep a 0).toInt = a.toInt % 1099511627776 - (a.toInt % 1099511627776) % 1099511627776 := by
  have e1 := c_maskL a 1099511627775 40 (by decide) (by decide)
  have e2 : ((((1 : Int64) <<< (((40 - 8 * (0 : Int32)).toInt64) &&& 63)) - 1) ^^^ -1 : Int64) = ⟨⟨~~~(1099511627775#64)⟩⟩ := by decide
  have e3 : (own_keep a 0).toBitVec = (a &&& 1099511627775).toBitVec - ((a &&& 1099511627775) &&& (1099511627775 : Int64)).toBitVec := by
    simp only [own_keep, e2]
    exact own_clear _ _
  have e4 : own_keep a 0 = (a &&& 1099511627775) - ((a &&& 1099511627775) &&& (1099511627775 : Int64)) := Int64.toBitVec_inj.mp e3
  have e5 := c_maskL (a &&& 1099511627775) 1099511627775 40 (by decide) (by decide)
  rw [e4, Int64.toInt_sub, e5, e1]
  apply Int.bmod_eq_of_le <;> omega
theorem own_keep_1 (a : Int64) : (own_keep a 1).toInt = a.toInt % 1099511627776 - (a.toInt % 1099511627776) % 4294967296 := by
  have e1 := c_maskL a 1099511627775 40 (by decide) (by decide)
  have e2 : ((((1 : Int64) <<< (((40 - 8 * (1 : Int32)).toInt64) &&& 63)) - 1) ^^^ -1 : Int64) = ⟨⟨~~~(4294967295#64)⟩⟩ := by decide
  have e3 : (own_keep a 1).toBitVec = (a &&& 1099511627775).toBitVec - ((a &&& 1099511627775) &&& (4294967295 : Int64)).toBitVec := by
    simp only [own_keep, e2]
    exact own_clear _ _
  have e4 : own_keep a 1 = (a &&& 1099511627775) - ((a &&& 1099511627775) &&& (4294967295 : Int64)) := Int64.toBitVec_inj.mp e3
  have e5 := c_maskL (a &&& 1099511627775) 4294967295 32 (by decide) (by decide)
  rw [e4, Int64.toInt_sub, e5, e1]
  apply Int.bmod_eq_of_le <;> omega
theorem own_keep_2 (a : Int64) : (own_keep a 2).toInt = a.toInt % 1099511627776 - (a.toInt % 1099511627776) % 16777216 := by
  have e1 := c_maskL a 1099511627775 40 (by decide) (by decide)
  have e2 : ((((1 : Int64) <<< (((40 - 8 * (2 : Int32)).toInt64) &&& 63)) - 1) ^^^ -1 : Int64) = ⟨⟨~~~(16777215#64)⟩⟩ := by decide
  have e3 : (own_keep a 2).toBitVec = (a &&& 1099511627775).toBitVec - ((a &&& 1099511627775) &&& (16777215 : Int64)).toBitVec := by
    simp only [own_keep, e2]
    exact own_clear _ _
  have e4 : own_keep a 2 = (a &&& 1099511627775) - ((a &&& 1099511627775) &&& (16777215 : Int64)) := Int64.toBitVec_inj.mp e3
  have e5 := c_maskL (a &&& 1099511627775) 16777215 24 (by decide) (by decide)
  rw [e4, Int64.toInt_sub, e5, e1]
  apply Int.bmod_eq_of_le <;> omega
theorem own_keep_3 (a : Int64) : (own_keep a 3).toInt = a.toInt % 1099511627776 - (a.toInt % 1099511627776) % 65536 := by
  have e1 := c_maskL a 1099511627775 40 (by decide) (by decide)
  have e2 : ((((1 : Int64) <<< (((40 - 8 * (3 : Int32)).toInt64) &&& 63)) - 1) ^^^ -1 : Int64) = ⟨⟨~~~(65535#64)⟩⟩ := by decide
  have e3 : (own_keep a 3).toBitVec = (a &&& 1099511627775).toBitVec - ((a &&& 1099511627775) &&& (65535 : Int64)).toBitVec := by
    simp only [own_keep, e2]
    exact own_clear _ _
  have e4 : own_keep a 3 = (a &&& 1099511627775) - ((a &&& 1099511627775) &&& (65535 : Int64)) := Int64.toBitVec_inj.mp e3
  have e5 := c_maskL (a &&& 1099511627775) 65535 16 (by decide) (by decide)
  rw [e4, Int64.toInt_sub, e5, e1]
  apply Int.bmod_eq_of_le <;> omega
theorem own_keep_4 (a : Int64) : (own_keep a 4).toInt = a.toInt % 1099511627776 - (a.toInt % 1099511627776) % 256 := by
  have e1 := c_maskL a 1099511627775 40 (by decide) (by decide)
  have e2 : ((((1 : Int64) <<< (((40 - 8 * (4 : Int32)).toInt64) &&& 63)) - 1) ^^^ -1 : Int64) = ⟨⟨~~~(255#64)⟩⟩ := by decide
  have e3 : (own_keep a 4).toBitVec = (a &&& 1099511627775).toBitVec - ((a &&& 1099511627775) &&& (255 : Int64)).toBitVec := by
    simp only [own_keep, e2]
    exact own_clear _ _
  have e4 : own_keep a 4 = (a &&& 1099511627775) - ((a &&& 1099511627775) &&& (255 : Int64)) := Int64.toBitVec_inj.mp e3
  have e5 := c_maskL (a &&& 1099511627775) 255 8 (by decide) (by decide)
  rw [e4, Int64.toInt_sub, e5, e1]
  apply Int.bmod_eq_of_le <;> omega
theorem own_keep_5 (a : Int64) : (own_keep a 5).toInt = a.toInt % 1099511627776 - (a.toInt % 1099511627776) % 1 := by
  have e1 := c_maskL a 1099511627775 40 (by decide) (by decide)
  have e2 : ((((1 : Int64) <<< (((40 - 8 * (5 : Int32)).toInt64) &&& 63)) - 1) ^^^ -1 : Int64) = ⟨⟨~~~(0#64)⟩⟩ := by decide
  have e3 : (own_keep a 5).toBitVec = (a &&& 1099511627775).toBitVec - ((a &&& 1099511627775) &&& (0 : Int64)).toBitVec := by
    simp only [own_keep, e2]
    exact own_clear _ _
  have e4 : own_keep a 5 = (a &&& 1099511627775) - ((a &&& 1099511627775) &&& (0 : Int64)) := Int64.toBitVec_inj.mp e3
  have e5 := c_maskL (a &&& 1099511627775) 0 0 (by decide) (by decide)
  rw [e4, Int64.toInt_sub, e5, e1]
  apply Int.bmod_eq_of_le <;> omega
theorem own_g_0 (w : Int64) (h : 0 ≤ w.toInt) : (own_g w 0).toInt = w.toInt / 34359738368 % 32 := by
  have h1 := c_lushr w 35 35 (by decide) (by decide)
  have e : own_g w 0 = ((w.toUInt64 >>> ((35 : Int32) &&& 0x3f).toInt64.toUInt64).toInt64 &&& 31).toInt32 := rfl
  rw [e]
  generalize (w.toUInt64 >>> ((35 : Int32) &&& 0x3f).toInt64.toUInt64).toInt64 = q at *
  have h2 := c_maskL q 31 5 (by decide) (by decide); have h3 := c_l2i (q &&& 31)
  have h4 := Int32.toInt_lt (q &&& 31).toInt32; have h5 := Int32.le_toInt (q &&& 31).toInt32; have h6 := Int64.toInt_lt w
  omega
theorem own_g_1 (w : Int64) (h : 0 ≤ w.toInt) : (own_g w 1).toInt = w.toInt / 1073741824 % 32 := by
  have h1 := c_lushr w 30 30 (by decide) (by decide)
  have e : own_g w 1 = ((w.toUInt64 >>> ((30 : Int32) &&& 0x3f).toInt64.toUInt64).toInt64 &&& 31).toInt32 := rfl
  rw [e]
  generalize (w.toUInt64 >>> ((30 : Int32) &&& 0x3f).toInt64.toUInt64).toInt64 = q at *
  have h2 := c_maskL q 31 5 (by decide) (by decide); have h3 := c_l2i (q &&& 31)
  have h4 := Int32.toInt_lt (q &&& 31).toInt32; have h5 := Int32.le_toInt (q &&& 31).toInt32; have h6 := Int64.toInt_lt w
  omega
theorem own_g_2 (w : Int64) (h : 0 ≤ w.toInt) : (own_g w 2).toInt = w.toInt / 33554432 % 32 := by
  have h1 := c_lushr w 25 25 (by decide) (by decide)
  have e : own_g w 2 = ((w.toUInt64 >>> ((25 : Int32) &&& 0x3f).toInt64.toUInt64).toInt64 &&& 31).toInt32 := rfl
  rw [e]
  generalize (w.toUInt64 >>> ((25 : Int32) &&& 0x3f).toInt64.toUInt64).toInt64 = q at *
  have h2 := c_maskL q 31 5 (by decide) (by decide); have h3 := c_l2i (q &&& 31)
  have h4 := Int32.toInt_lt (q &&& 31).toInt32; have h5 := Int32.le_toInt (q &&& 31).toInt32; have h6 := Int64.toInt_lt w
  omega
theorem own_g_3 (w : Int64) (h : 0 ≤ w.toInt) : (own_g w 3).toInt = w.toInt / 1048576 % 32 := by
  have h1 := c_lushr w 20 20 (by decide) (by decide)
  have e : own_g w 3 = ((w.toUInt64 >>> ((20 : Int32) &&& 0x3f).toInt64.toUInt64).toInt64 &&& 31).toInt32 := rfl
  rw [e]
  generalize (w.toUInt64 >>> ((20 : Int32) &&& 0x3f).toInt64.toUInt64).toInt64 = q at *
  have h2 := c_maskL q 31 5 (by decide) (by decide); have h3 := c_l2i (q &&& 31)
  have h4 := Int32.toInt_lt (q &&& 31).toInt32; have h5 := Int32.le_toInt (q &&& 31).toInt32; have h6 := Int64.toInt_lt w
  omega
theorem own_g_4 (w : Int64) (h : 0 ≤ w.toInt) : (own_g w 4).toInt = w.toInt / 32768 % 32 := by
  have h1 := c_lushr w 15 15 (by decide) (by decide)
  have e : own_g w 4 = ((w.toUInt64 >>> ((15 : Int32) &&& 0x3f).toInt64.toUInt64).toInt64 &&& 31).toInt32 := rfl
  rw [e]
  generalize (w.toUInt64 >>> ((15 : Int32) &&& 0x3f).toInt64.toUInt64).toInt64 = q at *
  have h2 := c_maskL q 31 5 (by decide) (by decide); have h3 := c_l2i (q &&& 31)
  have h4 := Int32.toInt_lt (q &&& 31).toInt32; have h5 := Int32.le_toInt (q &&& 31).toInt32; have h6 := Int64.toInt_lt w
  omega
theorem own_g_5 (w : Int64) (h : 0 ≤ w.toInt) : (own_g w 5).toInt = w.toInt / 1024 % 32 := by
  have h1 := c_lushr w 10 10 (by decide) (by decide)
  have e : own_g w 5 = ((w.toUInt64 >>> ((10 : Int32) &&& 0x3f).toInt64.toUInt64).toInt64 &&& 31).toInt32 := rfl
  rw [e]
  generalize (w.toUInt64 >>> ((10 : Int32) &&& 0x3f).toInt64.toUInt64).toInt64 = q at *
  have h2 := c_maskL q 31 5 (by decide) (by decide); have h3 := c_l2i (q &&& 31)
  have h4 := Int32.toInt_lt (q &&& 31).toInt32; have h5 := Int32.le_toInt (q &&& 31).toInt32; have h6 := Int64.toInt_lt w
  omega
theorem own_g_6 (w : Int64) (h : 0 ≤ w.toInt) : (own_g w 6).toInt = w.toInt / 32 % 32 := by
  have h1 := c_lushr w 5 5 (by decide) (by decide)
  have e : own_g w 6 = ((w.toUInt64 >>> ((5 : Int32) &&& 0x3f).toInt64.toUInt64).toInt64 &&& 31).toInt32 := rfl
  rw [e]
  generalize (w.toUInt64 >>> ((5 : Int32) &&& 0x3f).toInt64.toUInt64).toInt64 = q at *
  have h2 := c_maskL q 31 5 (by decide) (by decide); have h3 := c_l2i (q &&& 31)
  have h4 := Int32.toInt_lt (q &&& 31).toInt32; have h5 := Int32.le_toInt (q &&& 31).toInt32; have h6 := Int64.toInt_lt w
  omega
theorem own_g_7 (w : Int64) (h : 0 ≤ w.toInt) : (own_g w 7).toInt = w.toInt / 1 % 32 := by
  have e0 : XT.ushrL w (35 - 5 * 7) = w := by
    show (w.toUInt64 >>> (((35 - 5 * 7 : Int32).toInt64).toUInt64 &&& Int64.toUInt64 63)).toInt64 = w
    have e : (((35 - 5 * 7 : Int32).toInt64).toUInt64 &&& Int64.toUInt64 63) = 0 := by decide
    rw [e]; simp
  rw [own_g, e0]
  have h2 := c_maskL w 31 5 (by decide) (by decide); have h3 := c_l2i (w &&& 31)
  have h4 := Int32.toInt_lt (w &&& 31).toInt32; have h5 := Int32.le_toInt (w &&& 31).toInt32
  omega
def own_en (b v : Int32) : Value := .int (nar .byte (own_al ((XT.ushr b v) &&& 31)).toInt8.toInt32)
def own_es (w u : Int64) : List Value := [.int (nar .char (nar .char (own_sym (own_g w 0)))), .int (nar .char (nar .char (own_sym (own_g w 1)))), .int (nar .char (nar .char (own_sym (own_g w 2)))), .int (nar .char (nar .char (own_sym (own_g w 3)))), .int (nar .char (nar .char (own_sym (own_g w 4)))), .int (nar .char (nar .char (own_sym (own_g w 5)))), .int (nar .char (nar .char (own_sym (own_g w 6)))), .int (nar .char (nar .char (own_sym (own_g w 7)))), .int (nar .char (nar .char (own_sym (own_g u 0)))), .int (nar .char (nar .char (own_sym (own_g u 1)))), .int (nar .char (nar .char (own_sym (own_g u 2)))), .int (nar .char (nar .char (own_sym (own_g u 3)))), .int (nar .char (nar .char (own_sym (own_g u 4)))), .int (nar .char (nar .char (own_sym (own_g u 5)))), .int (nar .char (nar .char (own_sym (own_g u 6)))), .int (nar .char (nar .char (own_sym (own_g u 7))))]
def own_b0 (a c : Int64) : Int32 := (nar .byte ((((XT.ushrL a (32 : Int32)).toInt32)).toInt8.toInt32))
def own_B0 (a c : Int64) : Int32 := own_bf 0 (own_b0 a c)
theorem own_n0 (a c : Int64) : (own_b0 a c).toInt % 256 = (a.toInt / 4294967296) % 256 := own_by_32 a
theorem own_m0 (a c : Int64) : (own_B0 a c).toInt % 65536 = (a.toInt / 4294967296) % 256 := by
  have h := own_bf_m 0 (own_b0 a c); have y := own_n0 a c; have z0 : (0 : Int32).toInt = 0 := rfl
  show (own_bf 0 (own_b0 a c)).toInt % 65536 = _
  rw [h, z0, y]; omega
def own_b1 (a c : Int64) : Int32 := (nar .byte ((((XT.ushrL a (24 : Int32)).toInt32)).toInt8.toInt32))
def own_B1 (a c : Int64) : Int32 := own_bf (own_B0 a c) (own_b1 a c)
theorem own_n1 (a c : Int64) : (own_b1 a c).toInt % 256 = (a.toInt / 16777216) % 256 := own_by_24 a
theorem own_m1 (a c : Int64) : (own_B1 a c).toInt % 65536 = (a.toInt / 4294967296) % 256 * 256 + (a.toInt / 16777216) % 256 := by
  have h := own_bf_m (own_B0 a c) (own_b1 a c); have y := own_n1 a c
  show (own_bf (own_B0 a c) (own_b1 a c)).toInt % 65536 = _
  have h2 := own_m0 a c
  rw [h, y]; clear h y
  generalize (own_B0 a c).toInt = q at *
  omega
def own_b2 (a c : Int64) : Int32 := (nar .byte ((((XT.ushrL a (16 : Int32)).toInt32)).toInt8.toInt32))
def own_B2 (a c : Int64) : Int32 := own_bf (own_B1 a c) (own_b2 a c)
theorem own_n2 (a c : Int64) : (own_b2 a c).toInt % 256 = (a.toInt / 65536) % 256 := own_by_16 a
theorem own_m2 (a c : Int64) : (own_B2 a c).toInt % 65536 = (a.toInt / 16777216) % 256 * 256 + (a.toInt / 65536) % 256 := by
  have h := own_bf_m (own_B1 a c) (own_b2 a c); have y := own_n2 a c
  show (own_bf (own_B1 a c) (own_b2 a c)).toInt % 65536 = _
  have h2 := own_m1 a c
  rw [h, y]; clear h y
  generalize (own_B1 a c).toInt = q at *
  omega
def own_b3 (a c : Int64) : Int32 := (nar .byte ((((XT.ushrL a (8 : Int32)).toInt32)).toInt8.toInt32))
def own_B3 (a c : Int64) : Int32 := own_bf (own_B2 a c) (own_b3 a c)
theorem own_n3 (a c : Int64) : (own_b3 a c).toInt % 256 = (a.toInt / 256) % 256 := own_by_8 a
theorem own_m3 (a c : Int64) : (own_B3 a c).toInt % 65536 = (a.toInt / 65536) % 256 * 256 + (a.toInt / 256) % 256 := by
  have h := own_bf_m (own_B2 a c) (own_b3 a c); have y := own_n3 a c
  show (own_bf (own_B2 a c) (own_b3 a c)).toInt % 65536 = _
  have h2 := own_m2 a c
  rw [h, y]; clear h y
  generalize (own_B2 a c).toInt = q at *
  omega
def own_b4 (a c : Int64) : Int32 := (nar .byte (((a.toInt32)).toInt8.toInt32))
def own_B4 (a c : Int64) : Int32 := own_bf (own_B3 a c) (own_b4 a c)
theorem own_n4 (a c : Int64) : (own_b4 a c).toInt % 256 = (a.toInt / 1) % 256 := own_by_0 a
theorem own_m4 (a c : Int64) : (own_B4 a c).toInt % 65536 = (a.toInt / 256) % 256 * 256 + (a.toInt / 1) % 256 := by
  have h := own_bf_m (own_B3 a c) (own_b4 a c); have y := own_n4 a c
  show (own_bf (own_B3 a c) (own_b4 a c)).toInt % 65536 = _
  have h2 := own_m3 a c
  rw [h, y]; clear h y
  generalize (own_B3 a c).toInt = q at *
  omega
def own_b5 (a c : Int64) : Int32 := (nar .byte ((((XT.ushrL c (32 : Int32)).toInt32)).toInt8.toInt32))
def own_B5 (a c : Int64) : Int32 := own_bf (own_B4 a c) (own_b5 a c)
theorem own_n5 (a c : Int64) : (own_b5 a c).toInt % 256 = (c.toInt / 4294967296) % 256 := own_by_32 c
theorem own_m5 (a c : Int64) : (own_B5 a c).toInt % 65536 = (a.toInt / 1) % 256 * 256 + (c.toInt / 4294967296) % 256 := by
  have h := own_bf_m (own_B4 a c) (own_b5 a c); have y := own_n5 a c
  show (own_bf (own_B4 a c) (own_b5 a c)).toInt % 65536 = _
  have h2 := own_m4 a c
  rw [h, y]; clear h y
  generalize (own_B4 a c).toInt = q at *
  omega
def own_b6 (a c : Int64) : Int32 := (nar .byte ((((XT.ushrL c (24 : Int32)).toInt32)).toInt8.toInt32))
def own_B6 (a c : Int64) : Int32 := own_bf (own_B5 a c) (own_b6 a c)
theorem own_n6 (a c : Int64) : (own_b6 a c).toInt % 256 = (c.toInt / 16777216) % 256 := own_by_24 c
theorem own_m6 (a c : Int64) : (own_B6 a c).toInt % 65536 = (c.toInt / 4294967296) % 256 * 256 + (c.toInt / 16777216) % 256 := by
  have h := own_bf_m (own_B5 a c) (own_b6 a c); have y := own_n6 a c
  show (own_bf (own_B5 a c) (own_b6 a c)).toInt % 65536 = _
  have h2 := own_m5 a c
  rw [h, y]; clear h y
  generalize (own_B5 a c).toInt = q at *
  omega
def own_b7 (a c : Int64) : Int32 := (nar .byte ((((XT.ushrL c (16 : Int32)).toInt32)).toInt8.toInt32))
def own_B7 (a c : Int64) : Int32 := own_bf (own_B6 a c) (own_b7 a c)
theorem own_n7 (a c : Int64) : (own_b7 a c).toInt % 256 = (c.toInt / 65536) % 256 := own_by_16 c
theorem own_m7 (a c : Int64) : (own_B7 a c).toInt % 65536 = (c.toInt / 16777216) % 256 * 256 + (c.toInt / 65536) % 256 := by
  have h := own_bf_m (own_B6 a c) (own_b7 a c); have y := own_n7 a c
  show (own_bf (own_B6 a c) (own_b7 a c)).toInt % 65536 = _
  have h2 := own_m6 a c
  rw [h, y]; clear h y
  generalize (own_B6 a c).toInt = q at *
  omega
def own_b8 (a c : Int64) : Int32 := (nar .byte ((((XT.ushrL c (8 : Int32)).toInt32)).toInt8.toInt32))
def own_B8 (a c : Int64) : Int32 := own_bf (own_B7 a c) (own_b8 a c)
theorem own_n8 (a c : Int64) : (own_b8 a c).toInt % 256 = (c.toInt / 256) % 256 := own_by_8 c
theorem own_m8 (a c : Int64) : (own_B8 a c).toInt % 65536 = (c.toInt / 65536) % 256 * 256 + (c.toInt / 256) % 256 := by
  have h := own_bf_m (own_B7 a c) (own_b8 a c); have y := own_n8 a c
  show (own_bf (own_B7 a c) (own_b8 a c)).toInt % 65536 = _
  have h2 := own_m7 a c
  rw [h, y]; clear h y
  generalize (own_B7 a c).toInt = q at *
  omega
def own_b9 (a c : Int64) : Int32 := (nar .byte (((c.toInt32)).toInt8.toInt32))
def own_B9 (a c : Int64) : Int32 := own_bf (own_B8 a c) (own_b9 a c)
theorem own_n9 (a c : Int64) : (own_b9 a c).toInt % 256 = (c.toInt / 1) % 256 := own_by_0 c
theorem own_m9 (a c : Int64) : (own_B9 a c).toInt % 65536 = (c.toInt / 256) % 256 * 256 + (c.toInt / 1) % 256 := by
  have h := own_bf_m (own_B8 a c) (own_b9 a c); have y := own_n9 a c
  show (own_bf (own_B8 a c) (own_b9 a c)).toInt % 65536 = _
  have h2 := own_m8 a c
  rw [h, y]; clear h y
  generalize (own_B8 a c).toInt = q at *
  omega
theorem own_kp0 (a : Int64) : 0 ≤ (own_keep a 0).toInt := by rw [own_keep_0]; omega
theorem own_kp1 (a : Int64) : 0 ≤ (own_keep a 1).toInt := by rw [own_keep_1]; omega
theorem own_kp2 (a : Int64) : 0 ≤ (own_keep a 2).toInt := by rw [own_keep_2]; omega
theorem own_kp3 (a : Int64) : 0 ≤ (own_keep a 3).toInt := by rw [own_keep_3]; omega
theorem own_kp4 (a : Int64) : 0 ≤ (own_keep a 4).toInt := by rw [own_keep_4]; omega
theorem own_kp5 (a : Int64) : 0 ≤ (own_keep a 5).toInt := by rw [own_keep_5]; omega
def own_enc_0 : List Value := []
def own_E_0 (a c : Int64) : List Value := own_enc_0 
theorem own_all_0 (a c : Int64) (j : Nat) (hj : j < (own_E_0 a c).length) : ∃ x1 x2, (own_E_0 a c)[j]? = some (.int x1) ∧ (own_es (own_keep a 0) (own_keep c 0))[j]? = some (.int x2) ∧ own_ch x1 = x2 := by
  exact absurd (show j < 0 from hj) (Nat.not_lt_zero _)
def own_enc_1 (x0 : Int32) : List Value := [.int (nar .byte (own_al ((XT.ushr (own_bf (0 : Int32) x0) (3 : Int32)) &&& (31 : Int32))).toInt8.toInt32), .int (nar .byte (own_al (((own_bf (0 : Int32) x0) <<< ((2 : Int32) &&& 31)) &&& (31 : Int32))).toInt8.toInt32)]
def own_E_1 (a c : Int64) : List Value := own_enc_1 (own_b0 a c)
theorem own_h_0_1 (a c : Int64) : ((XT.ushr (own_B0 a c) (3 : Int32)) &&& (31 : Int32)) = own_g (own_keep a 1) 0 := by
  rw [n_eq, own_ix_3 (own_B0 a c), own_g_0 _ (own_kp1 a), own_keep_1]
  have h := own_m0 a c
  generalize (own_B0 a c).toInt = q at *
  omega
theorem own_h_1_1 (a c : Int64) : (((own_B0 a c) <<< ((2 : Int32) &&& 31)) &&& (31 : Int32)) = own_g (own_keep a 1) 1 := by
  rw [n_eq, own_iy_2 (own_B0 a c), own_g_1 _ (own_kp1 a), own_keep_1]
  have h := own_m0 a c
  generalize (own_B0 a c).toInt = q at *
  omega
theorem own_all_1 (a c : Int64) (j : Nat) (hj : j < (own_E_1 a c).length) : ∃ x1 x2, (own_E_1 a c)[j]? = some (.int x1) ∧ (own_es (own_keep a 1) (own_keep c 0))[j]? = some (.int x2) ∧ own_ch x1 = x2 := by
  have hk : j < 2 := hj
  have hc : j = 0 ∨ j = 1 := by omega
  simp only [own_E_1, own_enc_1, own_es]
  rcases hc with rfl | rfl
  · exact ⟨_, _, rfl, rfl, (own_fin (XT.ushr (own_B0 a c) 3)).trans (congrArg (fun z => nar .char (nar .char (own_sym z))) (own_h_0_1 a c))⟩
  · exact ⟨_, _, rfl, rfl, (own_fin ((own_B0 a c) <<< ((2 : Int32) &&& 31))).trans (congrArg (fun z => nar .char (nar .char (own_sym z))) (own_h_1_1 a c))⟩
def own_enc_2 (x0 x1 : Int32) : List Value := [.int (nar .byte (own_al ((XT.ushr (own_bf (0 : Int32) x0) (3 : Int32)) &&& (31 : Int32))).toInt8.toInt32), .int (nar .byte (own_al ((XT.ushr (own_bf (own_bf (0 : Int32) x0) x1) (6 : Int32)) &&& (31 : Int32))).toInt8.toInt32), .int (nar .byte (own_al ((XT.ushr (own_bf (own_bf (0 : Int32) x0) x1) (1 : Int32)) &&& (31 : Int32))).toInt8.toInt32), .int (nar .byte (own_al (((own_bf (own_bf (0 : Int32) x0) x1) <<< ((4 : Int32) &&& 31)) &&& (31 : Int32))).toInt8.toInt32)]
def own_E_2 (a c : Int64) : List Value := own_enc_2 (own_b0 a c) (own_b1 a c)
theorem own_h_0_2 (a c : Int64) : ((XT.ushr (own_B0 a c) (3 : Int32)) &&& (31 : Int32)) = own_g (own_keep a 2) 0 := by
  rw [n_eq, own_ix_3 (own_B0 a c), own_g_0 _ (own_kp2 a), own_keep_2]
  have h := own_m0 a c
  generalize (own_B0 a c).toInt = q at *
  omega
theorem own_h_1_2 (a c : Int64) : ((XT.ushr (own_B1 a c) (6 : Int32)) &&& (31 : Int32)) = own_g (own_keep a 2) 1 := by
  rw [n_eq, own_ix_6 (own_B1 a c), own_g_1 _ (own_kp2 a), own_keep_2]
  have h := own_m1 a c
  generalize (own_B1 a c).toInt = q at *
  omega
theorem own_h_2_2 (a c : Int64) : ((XT.ushr (own_B1 a c) (1 : Int32)) &&& (31 : Int32)) = own_g (own_keep a 2) 2 := by
  rw [n_eq, own_ix_1 (own_B1 a c), own_g_2 _ (own_kp2 a), own_keep_2]
  have h := own_m1 a c
  generalize (own_B1 a c).toInt = q at *
  omega
theorem own_h_3_2 (a c : Int64) : (((own_B1 a c) <<< ((4 : Int32) &&& 31)) &&& (31 : Int32)) = own_g (own_keep a 2) 3 := by
  rw [n_eq, own_iy_4 (own_B1 a c), own_g_3 _ (own_kp2 a), own_keep_2]
  have h := own_m1 a c
  generalize (own_B1 a c).toInt = q at *
  omega
theorem own_all_2 (a c : Int64) (j : Nat) (hj : j < (own_E_2 a c).length) : ∃ x1 x2, (own_E_2 a c)[j]? = some (.int x1) ∧ (own_es (own_keep a 2) (own_keep c 0))[j]? = some (.int x2) ∧ own_ch x1 = x2 := by
  have hk : j < 4 := hj
  have hc : j = 0 ∨ j = 1 ∨ j = 2 ∨ j = 3 := by omega
  simp only [own_E_2, own_enc_2, own_es]
  rcases hc with rfl | rfl | rfl | rfl
  · exact ⟨_, _, rfl, rfl, (own_fin (XT.ushr (own_B0 a c) 3)).trans (congrArg (fun z => nar .char (nar .char (own_sym z))) (own_h_0_2 a c))⟩
  · exact ⟨_, _, rfl, rfl, (own_fin (XT.ushr (own_B1 a c) 6)).trans (congrArg (fun z => nar .char (nar .char (own_sym z))) (own_h_1_2 a c))⟩
  · exact ⟨_, _, rfl, rfl, (own_fin (XT.ushr (own_B1 a c) 1)).trans (congrArg (fun z => nar .char (nar .char (own_sym z))) (own_h_2_2 a c))⟩
  · exact ⟨_, _, rfl, rfl, (own_fin ((own_B1 a c) <<< ((4 : Int32) &&& 31))).trans (congrArg (fun z => nar .char (nar .char (own_sym z))) (own_h_3_2 a c))⟩
def own_enc_3 (x0 x1 x2 : Int32) : List Value := [.int (nar .byte (own_al ((XT.ushr (own_bf (0 : Int32) x0) (3 : Int32)) &&& (31 : Int32))).toInt8.toInt32), .int (nar .byte (own_al ((XT.ushr (own_bf (own_bf (0 : Int32) x0) x1) (6 : Int32)) &&& (31 : Int32))).toInt8.toInt32), .int (nar .byte (own_al ((XT.ushr (own_bf (own_bf (0 : Int32) x0) x1) (1 : Int32)) &&& (31 : Int32))).toInt8.toInt32), .int (nar .byte (own_al ((XT.ushr (own_bf (own_bf (own_bf (0 : Int32) x0) x1) x2) (4 : Int32)) &&& (31 : Int32))).toInt8.toInt32), .int (nar .byte (own_al (((own_bf (own_bf (own_bf (0 : Int32) x0) x1) x2) <<< ((1 : Int32) &&& 31)) &&& (31 : Int32))).toInt8.toInt32)]
def own_E_3 (a c : Int64) : List Value := own_enc_3 (own_b0 a c) (own_b1 a c) (own_b2 a c)
theorem own_h_0_3 (a c : Int64) : ((XT.ushr (own_B0 a c) (3 : Int32)) &&& (31 : Int32)) = own_g (own_keep a 3) 0 := by
  rw [n_eq, own_ix_3 (own_B0 a c), own_g_0 _ (own_kp3 a), own_keep_3]
  have h := own_m0 a c
  generalize (own_B0 a c).toInt = q at *
  omega
theorem own_h_1_3 (a c : Int64) : ((XT.ushr (own_B1 a c) (6 : Int32)) &&& (31 : Int32)) = own_g (own_keep a 3) 1 := by
  rw [n_eq, own_ix_6 (own_B1 a c), own_g_1 _ (own_kp3 a), own_keep_3]
  have h := own_m1 a c
  generalize (own_B1 a c).toInt = q at *
  omega
theorem own_h_2_3 (a c : Int64) : ((XT.ushr (own_B1 a c) (1 : Int32)) &&& (31 : Int32)) = own_g (own_keep a 3) 2 := by
  rw [n_eq, own_ix_1 (own_B1 a c), own_g_2 _ (own_kp3 a), own_keep_3]
  have h := own_m1 a c
  generalize (own_B1 a c).toInt = q at *
  omega
theorem own_h_3_3 (a c : Int64) : ((XT.ushr (own_B2 a c) (4 : Int32)) &&& (31 : Int32)) = own_g (own_keep a 3) 3 := by
  rw [n_eq, own_ix_4 (own_B2 a c), own_g_3 _ (own_kp3 a), own_keep_3]
  have h := own_m2 a c
  generalize (own_B2 a c).toInt = q at *
  omega
theorem own_h_4_3 (a c : Int64) : (((own_B2 a c) <<< ((1 : Int32) &&& 31)) &&& (31 : Int32)) = own_g (own_keep a 3) 4 := by
  rw [n_eq, own_iy_1 (own_B2 a c), own_g_4 _ (own_kp3 a), own_keep_3]
  have h := own_m2 a c
  generalize (own_B2 a c).toInt = q at *
  omega
theorem own_all_3 (a c : Int64) (j : Nat) (hj : j < (own_E_3 a c).length) : ∃ x1 x2, (own_E_3 a c)[j]? = some (.int x1) ∧ (own_es (own_keep a 3) (own_keep c 0))[j]? = some (.int x2) ∧ own_ch x1 = x2 := by
  have hk : j < 5 := hj
  have hc : j = 0 ∨ j = 1 ∨ j = 2 ∨ j = 3 ∨ j = 4 := by omega
  simp only [own_E_3, own_enc_3, own_es]
  rcases hc with rfl | rfl | rfl | rfl | rfl
  · exact ⟨_, _, rfl, rfl, (own_fin (XT.ushr (own_B0 a c) 3)).trans (congrArg (fun z => nar .char (nar .char (own_sym z))) (own_h_0_3 a c))⟩
  · exact ⟨_, _, rfl, rfl, (own_fin (XT.ushr (own_B1 a c) 6)).trans (congrArg (fun z => nar .char (nar .char (own_sym z))) (own_h_1_3 a c))⟩
  · exact ⟨_, _, rfl, rfl, (own_fin (XT.ushr (own_B1 a c) 1)).trans (congrArg (fun z => nar .char (nar .char (own_sym z))) (own_h_2_3 a c))⟩
  · exact ⟨_, _, rfl, rfl, (own_fin (XT.ushr (own_B2 a c) 4)).trans (congrArg (fun z => nar .char (nar .char (own_sym z))) (own_h_3_3 a c))⟩
  · exact ⟨_, _, rfl, rfl, (own_fin ((own_B2 a c) <<< ((1 : Int32) &&& 31))).trans (congrArg (fun z => nar .char (nar .char (own_sym z))) (own_h_4_3 a c))⟩
def own_enc_4 (x0 x1 x2 x3 : Int32) : List Value := [.int (nar .byte (own_al ((XT.ushr (own_bf (0 : Int32) x0) (3 : Int32)) &&& (31 : Int32))).toInt8.toInt32), .int (nar .byte (own_al ((XT.ushr (own_bf (own_bf (0 : Int32) x0) x1) (6 : Int32)) &&& (31 : Int32))).toInt8.toInt32), .int (nar .byte (own_al ((XT.ushr (own_bf (own_bf (0 : Int32) x0) x1) (1 : Int32)) &&& (31 : Int32))).toInt8.toInt32), .int (nar .byte (own_al ((XT.ushr (own_bf (own_bf (own_bf (0 : Int32) x0) x1) x2) (4 : Int32)) &&& (31 : Int32))).toInt8.toInt32), .int (nar .byte (own_al ((XT.ushr (own_bf (own_bf (own_bf (own_bf (0 : Int32) x0) x1) x2) x3) (7 : Int32)) &&& (31 : Int32))).toInt8.toInt32), .int (nar .byte (own_al ((XT.ushr (own_bf (own_bf (own_bf (own_bf (0 : Int32) x0) x1) x2) x3) (2 : Int32)) &&& (31 : Int32))).toInt8.toInt32), .int (nar .byte (own_al (((own_bf (own_bf (own_bf (own_bf (0 : Int32) x0) x1) x2) x3) <<< ((3 : Int32) &&& 31)) &&& (31 : Int32))).toInt8.toInt32)]
def own_E_4 (a c : Int64) : List Value := own_enc_4 (own_b0 a c) (own_b1 a c) (own_b2 a c) (own_b3 a c)
theorem own_h_0_4 (a c : Int64) : ((XT.ushr (own_B0 a c) (3 : Int32)) &&& (31 : Int32)) = own_g (own_keep a 4) 0 := by
  rw [n_eq, own_ix_3 (own_B0 a c), own_g_0 _ (own_kp4 a), own_keep_4]
  have h := own_m0 a c
  generalize (own_B0 a c).toInt = q at *
  omega
theorem own_h_1_4 (a c : Int64) : ((XT.ushr (own_B1 a c) (6 : Int32)) &&& (31 : Int32)) = own_g (own_keep a 4) 1 := by
  rw [n_eq, own_ix_6 (own_B1 a c), own_g_1 _ (own_kp4 a), own_keep_4]
  have h := own_m1 a c
  generalize (own_B1 a c).toInt = q at *
  omega
theorem own_h_2_4 (a c : Int64) : ((XT.ushr (own_B1 a c) (1 : Int32)) &&& (31 : Int32)) = own_g (own_keep a 4) 2 := by
  rw [n_eq, own_ix_1 (own_B1 a c), own_g_2 _ (own_kp4 a), own_keep_4]
  have h := own_m1 a c
  generalize (own_B1 a c).toInt = q at *
  omega
theorem own_h_3_4 (a c : Int64) : ((XT.ushr (own_B2 a c) (4 : Int32)) &&& (31 : Int32)) = own_g (own_keep a 4) 3 := by
  rw [n_eq, own_ix_4 (own_B2 a c), own_g_3 _ (own_kp4 a), own_keep_4]
  have h := own_m2 a c
  generalize (own_B2 a c).toInt = q at *
  omega
theorem own_h_4_4 (a c : Int64) : ((XT.ushr (own_B3 a c) (7 : Int32)) &&& (31 : Int32)) = own_g (own_keep a 4) 4 := by
  rw [n_eq, own_ix_7 (own_B3 a c), own_g_4 _ (own_kp4 a), own_keep_4]
  have h := own_m3 a c
  generalize (own_B3 a c).toInt = q at *
  omega
theorem own_h_5_4 (a c : Int64) : ((XT.ushr (own_B3 a c) (2 : Int32)) &&& (31 : Int32)) = own_g (own_keep a 4) 5 := by
  rw [n_eq, own_ix_2 (own_B3 a c), own_g_5 _ (own_kp4 a), own_keep_4]
  have h := own_m3 a c
  generalize (own_B3 a c).toInt = q at *
  omega
theorem own_h_6_4 (a c : Int64) : (((own_B3 a c) <<< ((3 : Int32) &&& 31)) &&& (31 : Int32)) = own_g (own_keep a 4) 6 := by
  rw [n_eq, own_iy_3 (own_B3 a c), own_g_6 _ (own_kp4 a), own_keep_4]
  have h := own_m3 a c
  generalize (own_B3 a c).toInt = q at *
  omega
theorem own_all_4 (a c : Int64) (j : Nat) (hj : j < (own_E_4 a c).length) : ∃ x1 x2, (own_E_4 a c)[j]? = some (.int x1) ∧ (own_es (own_keep a 4) (own_keep c 0))[j]? = some (.int x2) ∧ own_ch x1 = x2 := by
  have hk : j < 7 := hj
  have hc : j = 0 ∨ j = 1 ∨ j = 2 ∨ j = 3 ∨ j = 4 ∨ j = 5 ∨ j = 6 := by omega
  simp only [own_E_4, own_enc_4, own_es]
  rcases hc with rfl | rfl | rfl | rfl | rfl | rfl | rfl
  · exact ⟨_, _, rfl, rfl, (own_fin (XT.ushr (own_B0 a c) 3)).trans (congrArg (fun z => nar .char (nar .char (own_sym z))) (own_h_0_4 a c))⟩
  · exact ⟨_, _, rfl, rfl, (own_fin (XT.ushr (own_B1 a c) 6)).trans (congrArg (fun z => nar .char (nar .char (own_sym z))) (own_h_1_4 a c))⟩
  · exact ⟨_, _, rfl, rfl, (own_fin (XT.ushr (own_B1 a c) 1)).trans (congrArg (fun z => nar .char (nar .char (own_sym z))) (own_h_2_4 a c))⟩
  · exact ⟨_, _, rfl, rfl, (own_fin (XT.ushr (own_B2 a c) 4)).trans (congrArg (fun z => nar .char (nar .char (own_sym z))) (own_h_3_4 a c))⟩
  · exact ⟨_, _, rfl, rfl, (own_fin (XT.ushr (own_B3 a c) 7)).trans (congrArg (fun z => nar .char (nar .char (own_sym z))) (own_h_4_4 a c))⟩
  · exact ⟨_, _, rfl, rfl, (own_fin (XT.ushr (own_B3 a c) 2)).trans (congrArg (fun z => nar .char (nar .char (own_sym z))) (own_h_5_4 a c))⟩
  · exact ⟨_, _, rfl, rfl, (own_fin ((own_B3 a c) <<< ((3 : Int32) &&& 31))).trans (congrArg (fun z => nar .char (nar .char (own_sym z))) (own_h_6_4 a c))⟩
def own_enc_5 (x0 x1 x2 x3 x4 : Int32) : List Value := [.int (nar .byte (own_al ((XT.ushr (own_bf (0 : Int32) x0) (3 : Int32)) &&& (31 : Int32))).toInt8.toInt32), .int (nar .byte (own_al ((XT.ushr (own_bf (own_bf (0 : Int32) x0) x1) (6 : Int32)) &&& (31 : Int32))).toInt8.toInt32), .int (nar .byte (own_al ((XT.ushr (own_bf (own_bf (0 : Int32) x0) x1) (1 : Int32)) &&& (31 : Int32))).toInt8.toInt32), .int (nar .byte (own_al ((XT.ushr (own_bf (own_bf (own_bf (0 : Int32) x0) x1) x2) (4 : Int32)) &&& (31 : Int32))).toInt8.toInt32), .int (nar .byte (own_al ((XT.ushr (own_bf (own_bf (own_bf (own_bf (0 : Int32) x0) x1) x2) x3) (7 : Int32)) &&& (31 : Int32))).toInt8.toInt32), .int (nar .byte (own_al ((XT.ushr (own_bf (own_bf (own_bf (own_bf (0 : Int32) x0) x1) x2) x3) (2 : Int32)) &&& (31 : Int32))).toInt8.toInt32), .int (nar .byte (own_al ((XT.ushr (own_bf (own_bf (own_bf (own_bf (own_bf (0 : Int32) x0) x1) x2) x3) x4) (5 : Int32)) &&& (31 : Int32))).toInt8.toInt32), .int (nar .byte (own_al ((XT.ushr (own_bf (own_bf (own_bf (own_bf (own_bf (0 : Int32) x0) x1) x2) x3) x4) (0 : Int32)) &&& (31 : Int32))).toInt8.toInt32)]
def own_E_5 (a c : Int64) : List Value := own_enc_5 (own_b0 a c) (own_b1 a c) (own_b2 a c) (own_b3 a c) (own_b4 a c)
theorem own_h_0_5 (a c : Int64) : ((XT.ushr (own_B0 a c) (3 : Int32)) &&& (31 : Int32)) = own_g (own_keep a 5) 0 := by
  rw [n_eq, own_ix_3 (own_B0 a c), own_g_0 _ (own_kp5 a), own_keep_5]
  have h := own_m0 a c
  generalize (own_B0 a c).toInt = q at *
  omega
theorem own_h_1_5 (a c : Int64) : ((XT.ushr (own_B1 a c) (6 : Int32)) &&& (31 : Int32)) = own_g (own_keep a 5) 1 := by
  rw [n_eq, own_ix_6 (own_B1 a c), own_g_1 _ (own_kp5 a), own_keep_5]
  have h := own_m1 a c
  generalize (own_B1 a c).toInt = q at *
  omega
theorem own_h_2_5 (a c : Int64) : ((XT.ushr (own_B1 a c) (1 : Int32)) &&& (31 : Int32)) = own_g (own_keep a 5) 2 := by
  rw [n_eq, own_ix_1 (own_B1 a c), own_g_2 _ (own_kp5 a), own_keep_5]
  have h := own_m1 a c
  generalize (own_B1 a c).toInt = q at *
  omega
theorem own_h_3_5 (a c : Int64) : ((XT.ushr (own_B2 a c) (4 : Int32)) &&& (31 : Int32)) = own_g (own_keep a 5) 3 := by
  rw [n_eq, own_ix_4 (own_B2 a c), own_g_3 _ (own_kp5 a), own_keep_5]
  have h := own_m2 a c
  generalize (own_B2 a c).toInt = q at *
  omega
theorem own_h_4_5 (a c : Int64) : ((XT.ushr (own_B3 a c) (7 : Int32)) &&& (31 : Int32)) = own_g (own_keep a 5) 4 := by
  rw [n_eq, own_ix_7 (own_B3 a c), own_g_4 _ (own_kp5 a), own_keep_5]
  have h := own_m3 a c
  generalize (own_B3 a c).toInt = q at *
  omega
theorem own_h_5_5 (a c : Int64) : ((XT.ushr (own_B3 a c) (2 : Int32)) &&& (31 : Int32)) = own_g (own_keep a 5) 5 := by
  rw [n_eq, own_ix_2 (own_B3 a c), own_g_5 _ (own_kp5 a), own_keep_5]
  have h := own_m3 a c
  generalize (own_B3 a c).toInt = q at *
  omega
theorem own_h_6_5 (a c : Int64) : ((XT.ushr (own_B4 a c) (5 : Int32)) &&& (31 : Int32)) = own_g (own_keep a 5) 6 := by
  rw [n_eq, own_ix_5 (own_B4 a c), own_g_6 _ (own_kp5 a), own_keep_5]
  have h := own_m4 a c
  generalize (own_B4 a c).toInt = q at *
  omega
theorem own_h_7_5 (a c : Int64) : ((XT.ushr (own_B4 a c) (0 : Int32)) &&& (31 : Int32)) = own_g (own_keep a 5) 7 := by
  rw [n_eq, own_ix_0 (own_B4 a c), own_g_7 _ (own_kp5 a), own_keep_5]
  have h := own_m4 a c
  generalize (own_B4 a c).toInt = q at *
  omega
theorem own_all_5 (a c : Int64) (j : Nat) (hj : j < (own_E_5 a c).length) : ∃ x1 x2, (own_E_5 a c)[j]? = some (.int x1) ∧ (own_es (own_keep a 5) (own_keep c 0))[j]? = some (.int x2) ∧ own_ch x1 = x2 := by
  have hk : j < 8 := hj
  have hc : j = 0 ∨ j = 1 ∨ j = 2 ∨ j = 3 ∨ j = 4 ∨ j = 5 ∨ j = 6 ∨ j = 7 := by omega
  simp only [own_E_5, own_enc_5, own_es]
  rcases hc with rfl | rfl | rfl | rfl | rfl | rfl | rfl | rfl
  · exact ⟨_, _, rfl, rfl, (own_fin (XT.ushr (own_B0 a c) 3)).trans (congrArg (fun z => nar .char (nar .char (own_sym z))) (own_h_0_5 a c))⟩
  · exact ⟨_, _, rfl, rfl, (own_fin (XT.ushr (own_B1 a c) 6)).trans (congrArg (fun z => nar .char (nar .char (own_sym z))) (own_h_1_5 a c))⟩
  · exact ⟨_, _, rfl, rfl, (own_fin (XT.ushr (own_B1 a c) 1)).trans (congrArg (fun z => nar .char (nar .char (own_sym z))) (own_h_2_5 a c))⟩
  · exact ⟨_, _, rfl, rfl, (own_fin (XT.ushr (own_B2 a c) 4)).trans (congrArg (fun z => nar .char (nar .char (own_sym z))) (own_h_3_5 a c))⟩
  · exact ⟨_, _, rfl, rfl, (own_fin (XT.ushr (own_B3 a c) 7)).trans (congrArg (fun z => nar .char (nar .char (own_sym z))) (own_h_4_5 a c))⟩
  · exact ⟨_, _, rfl, rfl, (own_fin (XT.ushr (own_B3 a c) 2)).trans (congrArg (fun z => nar .char (nar .char (own_sym z))) (own_h_5_5 a c))⟩
  · exact ⟨_, _, rfl, rfl, (own_fin (XT.ushr (own_B4 a c) 5)).trans (congrArg (fun z => nar .char (nar .char (own_sym z))) (own_h_6_5 a c))⟩
  · exact ⟨_, _, rfl, rfl, (own_fin (XT.ushr (own_B4 a c) 0)).trans (congrArg (fun z => nar .char (nar .char (own_sym z))) (own_h_7_5 a c))⟩
def own_enc_6 (x0 x1 x2 x3 x4 x5 : Int32) : List Value := [.int (nar .byte (own_al ((XT.ushr (own_bf (0 : Int32) x0) (3 : Int32)) &&& (31 : Int32))).toInt8.toInt32), .int (nar .byte (own_al ((XT.ushr (own_bf (own_bf (0 : Int32) x0) x1) (6 : Int32)) &&& (31 : Int32))).toInt8.toInt32), .int (nar .byte (own_al ((XT.ushr (own_bf (own_bf (0 : Int32) x0) x1) (1 : Int32)) &&& (31 : Int32))).toInt8.toInt32), .int (nar .byte (own_al ((XT.ushr (own_bf (own_bf (own_bf (0 : Int32) x0) x1) x2) (4 : Int32)) &&& (31 : Int32))).toInt8.toInt32), .int (nar .byte (own_al ((XT.ushr (own_bf (own_bf (own_bf (own_bf (0 : Int32) x0) x1) x2) x3) (7 : Int32)) &&& (31 : Int32))).toInt8.toInt32), .int (nar .byte (own_al ((XT.ushr (own_bf (own_bf (own_bf (own_bf (0 : Int32) x0) x1) x2) x3) (2 : Int32)) &&& (31 : Int32))).toInt8.toInt32), .int (nar .byte (own_al ((XT.ushr (own_bf (own_bf (own_bf (own_bf (own_bf (0 : Int32) x0) x1) x2) x3) x4) (5 : Int32)) &&& (31 : Int32))).toInt8.toInt32), .int (nar .byte (own_al ((XT.ushr (own_bf (own_bf (own_bf (own_bf (own_bf (0 : Int32) x0) x1) x2) x3) x4) (0 : Int32)) &&& (31 : Int32))).toInt8.toInt32), .int (nar .byte (own_al ((XT.ushr (own_bf (own_bf (own_bf (own_bf (own_bf (own_bf (0 : Int32) x0) x1) x2) x3) x4) x5) (3 : Int32)) &&& (31 : Int32))).toInt8.toInt32), .int (nar .byte (own_al (((own_bf (own_bf (own_bf (own_bf (own_bf (own_bf (0 : Int32) x0) x1) x2) x3) x4) x5) <<< ((2 : Int32) &&& 31)) &&& (31 : Int32))).toInt8.toInt32)]
def own_E_6 (a c : Int64) : List Value := own_enc_6 (own_b0 a c) (own_b1 a c) (own_b2 a c) (own_b3 a c) (own_b4 a c) (own_b5 a c)
theorem own_h_8_1 (a c : Int64) : ((XT.ushr (own_B5 a c) (3 : Int32)) &&& (31 : Int32)) = own_g (own_keep c 1) 0 := by
  rw [n_eq, own_ix_3 (own_B5 a c), own_g_0 _ (own_kp1 c), own_keep_1]
  have h := own_m5 a c
  generalize (own_B5 a c).toInt = q at *
  omega
theorem own_h_9_1 (a c : Int64) : (((own_B5 a c) <<< ((2 : Int32) &&& 31)) &&& (31 : Int32)) = own_g (own_keep c 1) 1 := by
  rw [n_eq, own_iy_2 (own_B5 a c), own_g_1 _ (own_kp1 c), own_keep_1]
  have h := own_m5 a c
  generalize (own_B5 a c).toInt = q at *
  omega
theorem own_all_6 (a c : Int64) (j : Nat) (hj : j < (own_E_6 a c).length) : ∃ x1 x2, (own_E_6 a c)[j]? = some (.int x1) ∧ (own_es (own_keep a 5) (own_keep c 1))[j]? = some (.int x2) ∧ own_ch x1 = x2 := by
  have hk : j < 10 := hj
  have hc : j = 0 ∨ j = 1 ∨ j = 2 ∨ j = 3 ∨ j = 4 ∨ j = 5 ∨ j = 6 ∨ j = 7 ∨ j = 8 ∨ j = 9 := by omega
  simp only [own_E_6, own_enc_6, own_es]
  rcases hc with rfl | rfl | rfl | rfl | rfl | rfl | rfl | rfl | rfl | rfl
  · exact ⟨_, _, rfl, rfl, (own_fin (XT.ushr (own_B0 a c) 3)).trans (congrArg (fun z => nar .char (nar .char (own_sym z))) (own_h_0_5 a c))⟩
  · exact ⟨_, _, rfl, rfl, (own_fin (XT.ushr (own_B1 a c) 6)).trans (congrArg (fun z => nar .char (nar .char (own_sym z))) (own_h_1_5 a c))⟩
  · exact ⟨_, _, rfl, rfl, (own_fin (XT.ushr (own_B1 a c) 1)).trans (congrArg (fun z => nar .char (nar .char (own_sym z))) (own_h_2_5 a c))⟩
  · exact ⟨_, _, rfl, rfl, (own_fin (XT.ushr (own_B2 a c) 4)).trans (congrArg (fun z => nar .char (nar .char (own_sym z))) (own_h_3_5 a c))⟩
  · exact ⟨_, _, rfl, rfl, (own_fin (XT.ushr (own_B3 a c) 7)).trans (congrArg (fun z => nar .char (nar .char (own_sym z))) (own_h_4_5 a c))⟩
  · exact ⟨_, _, rfl, rfl, (own_fin (XT.ushr (own_B3 a c) 2)).trans (congrArg (fun z => nar .char (nar .char (own_sym z))) (own_h_5_5 a c))⟩
  · exact ⟨_, _, rfl, rfl, (own_fin (XT.ushr (own_B4 a c) 5)).trans (congrArg (fun z => nar .char (nar .char (own_sym z))) (own_h_6_5 a c))⟩
  · exact ⟨_, _, rfl, rfl, (own_fin (XT.ushr (own_B4 a c) 0)).trans (congrArg (fun z => nar .char (nar .char (own_sym z))) (own_h_7_5 a c))⟩
  · exact ⟨_, _, rfl, rfl, (own_fin (XT.ushr (own_B5 a c) 3)).trans (congrArg (fun z => nar .char (nar .char (own_sym z))) (own_h_8_1 a c))⟩
  · exact ⟨_, _, rfl, rfl, (own_fin ((own_B5 a c) <<< ((2 : Int32) &&& 31))).trans (congrArg (fun z => nar .char (nar .char (own_sym z))) (own_h_9_1 a c))⟩
def own_enc_7 (x0 x1 x2 x3 x4 x5 x6 : Int32) : List Value := [.int (nar .byte (own_al ((XT.ushr (own_bf (0 : Int32) x0) (3 : Int32)) &&& (31 : Int32))).toInt8.toInt32), .int (nar .byte (own_al ((XT.ushr (own_bf (own_bf (0 : Int32) x0) x1) (6 : Int32)) &&& (31 : Int32))).toInt8.toInt32), .int (nar .byte (own_al ((XT.ushr (own_bf (own_bf (0 : Int32) x0) x1) (1 : Int32)) &&& (31 : Int32))).toInt8.toInt32), .int (nar .byte (own_al ((XT.ushr (own_bf (own_bf (own_bf (0 : Int32) x0) x1) x2) (4 : Int32)) &&& (31 : Int32))).toInt8.toInt32), .int (nar .byte (own_al ((XT.ushr (own_bf (own_bf (own_bf (own_bf (0 : Int32) x0) x1) x2) x3) (7 : Int32)) &&& (31 : Int32))).toInt8.toInt32), .int (nar .byte (own_al ((XT.ushr (own_bf (own_bf (own_bf (own_bf (0 : Int32) x0) x1) x2) x3) (2 : Int32)) &&& (31 : Int32))).toInt8.toInt32), .int (nar .byte (own_al ((XT.ushr (own_bf (own_bf (own_bf (own_bf (own_bf (0 : Int32) x0) x1) x2) x3) x4) (5 : Int32)) &&& (31 : Int32))).toInt8.toInt32), .int (nar .byte (own_al ((XT.ushr (own_bf (own_bf (own_bf (own_bf (own_bf (0 : Int32) x0) x1) x2) x3) x4) (0 : Int32)) &&& (31 : Int32))).toInt8.toInt32), .int (nar .byte (own_al ((XT.ushr (own_bf (own_bf (own_bf (own_bf (own_bf (own_bf (0 : Int32) x0) x1) x2) x3) x4) x5) (3 : Int32)) &&& (31 : Int32))).toInt8.toInt32), .int (nar .byte (own_al ((XT.ushr (own_bf (own_bf (own_bf (own_bf (own_bf (own_bf (own_bf (0 : Int32) x0) x1) x2) x3) x4) x5) x6) (6 : Int32)) &&& (31 : Int32))).toInt8.toInt32), .int (nar .byte (own_al ((XT.ushr (own_bf (own_bf (own_bf (own_bf (own_bf (own_bf (own_bf (0 : Int32) x0) x1) x2) x3) x4) x5) x6) (1 : Int32)) &&& (31 : Int32))).toInt8.toInt32), .int (nar .byte (own_al (((own_bf (own_bf (own_bf (own_bf (own_bf (own_bf (own_bf (0 : Int32) x0) x1) x2) x3) x4) x5) x6) <<< ((4 : Int32) &&& 31)) &&& (31 : Int32))).toInt8.toInt32)]
def own_E_7 (a c : Int64) : List Value := own_enc_7 (own_b0 a c) (own_b1 a c) (own_b2 a c) (own_b3 a c) (own_b4 a c) (own_b5 a c) (own_b6 a c)
theorem own_h_8_2 (a c : Int64) : ((XT.ushr (own_B5 a c) (3 : Int32)) &&& (31 : Int32)) = own_g (own_keep c 2) 0 := by
  rw [n_eq, own_ix_3 (own_B5 a c), own_g_0 _ (own_kp2 c), own_keep_2]
  have h := own_m5 a c
  generalize (own_B5 a c).toInt = q at *
  omega
theorem own_h_9_2 (a c : Int64) : ((XT.ushr (own_B6 a c) (6 : Int32)) &&& (31 : Int32)) = own_g (own_keep c 2) 1 := by
  rw [n_eq, own_ix_6 (own_B6 a c), own_g_1 _ (own_kp2 c), own_keep_2]
  have h := own_m6 a c
  generalize (own_B6 a c).toInt = q at *
  omega
theorem own_h_10_2 (a c : Int64) : ((XT.ushr (own_B6 a c) (1 : Int32)) &&& (31 : Int32)) = own_g (own_keep c 2) 2 := by
  rw [n_eq, own_ix_1 (own_B6 a c), own_g_2 _ (own_kp2 c), own_keep_2]
  have h := own_m6 a c
  generalize (own_B6 a c).toInt = q at *
  omega
theorem own_h_11_2 (a c : Int64) : (((own_B6 a c) <<< ((4 : Int32) &&& 31)) &&& (31 : Int32)) = own_g (own_keep c 2) 3 := by
  rw [n_eq, own_iy_4 (own_B6 a c), own_g_3 _ (own_kp2 c), own_keep_2]
  have h := own_m6 a c
  generalize (own_B6 a c).toInt = q at *
  omega
theorem own_all_7 (a c : Int64) (j : Nat) (hj : j < (own_E_7 a c).length) : ∃ x1 x2, (own_E_7 a c)[j]? = some (.int x1) ∧ (own_es (own_keep a 5) (own_keep c 2))[j]? = some (.int x2) ∧ own_ch x1 = x2 := by
  have hk : j < 12 := hj
  have hc : j = 0 ∨ j = 1 ∨ j = 2 ∨ j = 3 ∨ j = 4 ∨ j = 5 ∨ j = 6 ∨ j = 7 ∨ j = 8 ∨ j = 9 ∨ j = 10 ∨ j = 11 := by omega
  simp only [own_E_7, own_enc_7, own_es]
  rcases hc with rfl | rfl | rfl | rfl | rfl | rfl | rfl | rfl | rfl | rfl | rfl | rfl
  · exact ⟨_, _, rfl, rfl, (own_fin (XT.ushr (own_B0 a c) 3)).trans (congrArg (fun z => nar .char (nar .char (own_sym z))) (own_h_0_5 a c))⟩
  · exact ⟨_, _, rfl, rfl, (own_fin (XT.ushr (own_B1 a c) 6)).trans (congrArg (fun z => nar .char (nar .char (own_sym z))) (own_h_1_5 a c))⟩
  · exact ⟨_, _, rfl, rfl, (own_fin (XT.ushr (own_B1 a c) 1)).trans (congrArg (fun z => nar .char (nar .char (own_sym z))) (own_h_2_5 a c))⟩
  · exact ⟨_, _, rfl, rfl, (own_fin (XT.ushr (own_B2 a c) 4)).trans (congrArg (fun z => nar .char (nar .char (own_sym z))) (own_h_3_5 a c))⟩
  · exact ⟨_, _, rfl, rfl, (own_fin (XT.ushr (own_B3 a c) 7)).trans (congrArg (fun z => nar .char (nar .char (own_sym z))) (own_h_4_5 a c))⟩
  · exact ⟨_, _, rfl, rfl, (own_fin (XT.ushr (own_B3 a c) 2)).trans (congrArg (fun z => nar .char (nar .char (own_sym z))) (own_h_5_5 a c))⟩
  · exact ⟨_, _, rfl, rfl, (own_fin (XT.ushr (own_B4 a c) 5)).trans (congrArg (fun z => nar .char (nar .char (own_sym z))) (own_h_6_5 a c))⟩
  · exact ⟨_, _, rfl, rfl, (own_fin (XT.ushr (own_B4 a c) 0)).trans (congrArg (fun z => nar .char (nar .char (own_sym z))) (own_h_7_5 a c))⟩
  · exact ⟨_, _, rfl, rfl, (own_fin (XT.ushr (own_B5 a c) 3)).trans (congrArg (fun z => nar .char (nar .char (own_sym z))) (own_h_8_2 a c))⟩
  · exact ⟨_, _, rfl, rfl, (own_fin (XT.ushr (own_B6 a c) 6)).trans (congrArg (fun z => nar .char (nar .char (own_sym z))) (own_h_9_2 a c))⟩
  · exact ⟨_, _, rfl, rfl, (own_fin (XT.ushr (own_B6 a c) 1)).trans (congrArg (fun z => nar .char (nar .char (own_sym z))) (own_h_10_2 a c))⟩
  · exact ⟨_, _, rfl, rfl, (own_fin ((own_B6 a c) <<< ((4 : Int32) &&& 31))).trans (congrArg (fun z => nar .char (nar .char (own_sym z))) (own_h_11_2 a c))⟩
def own_enc_8 (x0 x1 x2 x3 x4 x5 x6 x7 : Int32) : List Value := [.int (nar .byte (own_al ((XT.ushr (own_bf (0 : Int32) x0) (3 : Int32)) &&& (31 : Int32))).toInt8.toInt32), .int (nar .byte (own_al ((XT.ushr (own_bf (own_bf (0 : Int32) x0) x1) (6 : Int32)) &&& (31 : Int32))).toInt8.toInt32), .int (nar .byte (own_al ((XT.ushr (own_bf (own_bf (0 : Int32) x0) x1) (1 : Int32)) &&& (31 : Int32))).toInt8.toInt32), .int (nar .byte (own_al ((XT.ushr (own_bf (own_bf (own_bf (0 : Int32) x0) x1) x2) (4 : Int32)) &&& (31 : Int32))).toInt8.toInt32), .int (nar .byte (own_al ((XT.ushr (own_bf (own_bf (own_bf (own_bf (0 : Int32) x0) x1) x2) x3) (7 : Int32)) &&& (31 : Int32))).toInt8.toInt32), .int (nar .byte (own_al ((XT.ushr (own_bf (own_bf (own_bf (own_bf (0 : Int32) x0) x1) x2) x3) (2 : Int32)) &&& (31 : Int32))).toInt8.toInt32), .int (nar .byte (own_al ((XT.ushr (own_bf (own_bf (own_bf (own_bf (own_bf (0 : Int32) x0) x1) x2) x3) x4) (5 : Int32)) &&& (31 : Int32))).toInt8.toInt32), .int (nar .byte (own_al ((XT.ushr (own_bf (own_bf (own_bf (own_bf (own_bf (0 : Int32) x0) x1) x2) x3) x4) (0 : Int32)) &&& (31 : Int32))).toInt8.toInt32), .int (nar .byte (own_al ((XT.ushr (own_bf (own_bf (own_bf (own_bf (own_bf (own_bf (0 : Int32) x0) x1) x2) x3) x4) x5) (3 : Int32)) &&& (31 : Int32))).toInt8.toInt32), .int (nar .byte (own_al ((XT.ushr (own_bf (own_bf (own_bf (own_bf (own_bf (own_bf (own_bf (0 : Int32) x0) x1) x2) x3) x4) x5) x6) (6 : Int32)) &&& (31 : Int32))).toInt8.toInt32), .int (nar .byte (own_al ((XT.ushr (own_bf (own_bf (own_bf (own_bf (own_bf (own_bf (own_bf (0 : Int32) x0) x1) x2) x3) x4) x5) x6) (1 : Int32)) &&& (31 : Int32))).toInt8.toInt32), .int (nar .byte (own_al ((XT.ushr (own_bf (own_bf (own_bf (own_bf (own_bf (own_bf (own_bf (own_bf (0 : Int32) x0) x1) x2) x3) x4) x5) x6) x7) (4 : Int32)) &&& (31 : Int32))).toInt8.toInt32), .int (nar .byte (own_al (((own_bf (own_bf (own_bf (own_bf (own_bf (own_bf (own_bf (own_bf (0 : Int32) x0) x1) x2) x3) x4) x5) x6) x7) <<< ((1 : Int32) &&& 31)) &&& (31 : Int32))).toInt8.toInt32)]
def own_E_8 (a c : Int64) : List Value := own_enc_8 (own_b0 a c) (own_b1 a c) (own_b2 a c) (own_b3 a c) (own_b4 a c) (own_b5 a c) (own_b6 a c) (own_b7 a c)
theorem own_h_8_3 (a c : Int64) : ((XT.ushr (own_B5 a c) (3 : Int32)) &&& (31 : Int32)) = own_g (own_keep c 3) 0 := by
  rw [n_eq, own_ix_3 (own_B5 a c), own_g_0 _ (own_kp3 c), own_keep_3]
  have h := own_m5 a c
  generalize (own_B5 a c).toInt = q at *
  omega
theorem own_h_9_3 (a c : Int64) : ((XT.ushr (own_B6 a c) (6 : Int32)) &&& (31 : Int32)) = own_g (own_keep c 3) 1 := by
  rw [n_eq, own_ix_6 (own_B6 a c), own_g_1 _ (own_kp3 c), own_keep_3]
  have h := own_m6 a c
  generalize (own_B6 a c).toInt = q at *
  omega
theorem own_h_10_3 (a c : Int64) : ((XT.ushr (own_B6 a c) (1 : Int32)) &&& (31 : Int32)) = own_g (own_keep c 3) 2 := by
  rw [n_eq, own_ix_1 (own_B6 a c), own_g_2 _ (own_kp3 c), own_keep_3]
  have h := own_m6 a c
  generalize (own_B6 a c).toInt = q at *
  omega
theorem own_h_11_3 (a c : Int64) : ((XT.ushr (own_B7 a c) (4 : Int32)) &&& (31 : Int32)) = own_g (own_keep c 3) 3 := by
  rw [n_eq, own_ix_4 (own_B7 a c), own_g_3 _ (own_kp3 c), own_keep_3]
  have h := own_m7 a c
  generalize (own_B7 a c).toInt = q at *
  omega
theorem own_h_12_3 (a c : Int64) : (((own_B7 a c) <<< ((1 : Int32) &&& 31)) &&& (31 : Int32)) = own_g (own_keep c 3) 4 := by
  rw [n_eq, own_iy_1 (own_B7 a c), own_g_4 _ (own_kp3 c), own_keep_3]
  have h := own_m7 a c
  generalize (own_B7 a c).toInt = q at *
  omega
theorem own_all_8 (a c : Int64) (j : Nat) (hj : j < (own_E_8 a c).length) : ∃ x1 x2, (own_E_8 a c)[j]? = some (.int x1) ∧ (own_es (own_keep a 5) (own_keep c 3))[j]? = some (.int x2) ∧ own_ch x1 = x2 := by
  have hk : j < 13 := hj
  have hc : j = 0 ∨ j = 1 ∨ j = 2 ∨ j = 3 ∨ j = 4 ∨ j = 5 ∨ j = 6 ∨ j = 7 ∨ j = 8 ∨ j = 9 ∨ j = 10 ∨ j = 11 ∨ j = 12 := by omega
  simp only [own_E_8, own_enc_8, own_es]
  rcases hc with rfl | rfl | rfl | rfl | rfl | rfl | rfl | rfl | rfl | rfl | rfl | rfl | rfl
  · exact ⟨_, _, rfl, rfl, (own_fin (XT.ushr (own_B0 a c) 3)).trans (congrArg (fun z => nar .char (nar .char (own_sym z))) (own_h_0_5 a c))⟩
  · exact ⟨_, _, rfl, rfl, (own_fin (XT.ushr (own_B1 a c) 6)).trans (congrArg (fun z => nar .char (nar .char (own_sym z))) (own_h_1_5 a c))⟩
  · exact ⟨_, _, rfl, rfl, (own_fin (XT.ushr (own_B1 a c) 1)).trans (congrArg (fun z => nar .char (nar .char (own_sym z))) (own_h_2_5 a c))⟩
  · exact ⟨_, _, rfl, rfl, (own_fin (XT.ushr (own_B2 a c) 4)).trans (congrArg (fun z => nar .char (nar .char (own_sym z))) (own_h_3_5 a c))⟩
  · exact ⟨_, _, rfl, rfl, (own_fin (XT.ushr (own_B3 a c) 7)).trans (congrArg (fun z => nar .char (nar .char (own_sym z))) (own_h_4_5 a c))⟩
  · exact ⟨_, _, rfl, rfl, (own_fin (XT.ushr (own_B3 a c) 2)).trans (congrArg (fun z => nar .char (nar .char (own_sym z))) (own_h_5_5 a c))⟩
  · exact ⟨_, _, rfl, rfl, (own_fin (XT.ushr (own_B4 a c) 5)).trans (congrArg (fun z => nar .char (nar .char (own_sym z))) (own_h_6_5 a c))⟩
  · exact ⟨_, _, rfl, rfl, (own_fin (XT.ushr (own_B4 a c) 0)).trans (congrArg (fun z => nar .char (nar .char (own_sym z))) (own_h_7_5 a c))⟩
  · exact ⟨_, _, rfl, rfl, (own_fin (XT.ushr (own_B5 a c) 3)).trans (congrArg (fun z => nar .char (nar .char (own_sym z))) (own_h_8_3 a c))⟩
  · exact ⟨_, _, rfl, rfl, (own_fin (XT.ushr (own_B6 a c) 6)).trans (congrArg (fun z => nar .char (nar .char (own_sym z))) (own_h_9_3 a c))⟩
  · exact ⟨_, _, rfl, rfl, (own_fin (XT.ushr (own_B6 a c) 1)).trans (congrArg (fun z => nar .char (nar .char (own_sym z))) (own_h_10_3 a c))⟩
  · exact ⟨_, _, rfl, rfl, (own_fin (XT.ushr (own_B7 a c) 4)).trans (congrArg (fun z => nar .char (nar .char (own_sym z))) (own_h_11_3 a c))⟩
  · exact ⟨_, _, rfl, rfl, (own_fin ((own_B7 a c) <<< ((1 : Int32) &&& 31))).trans (congrArg (fun z => nar .char (nar .char (own_sym z))) (own_h_12_3 a c))⟩
def own_enc_9 (x0 x1 x2 x3 x4 x5 x6 x7 x8 : Int32) : List Value := [.int (nar .byte (own_al ((XT.ushr (own_bf (0 : Int32) x0) (3 : Int32)) &&& (31 : Int32))).toInt8.toInt32), .int (nar .byte (own_al ((XT.ushr (own_bf (own_bf (0 : Int32) x0) x1) (6 : Int32)) &&& (31 : Int32))).toInt8.toInt32), .int (nar .byte (own_al ((XT.ushr (own_bf (own_bf (0 : Int32) x0) x1) (1 : Int32)) &&& (31 : Int32))).toInt8.toInt32), .int (nar .byte (own_al ((XT.ushr (own_bf (own_bf (own_bf (0 : Int32) x0) x1) x2) (4 : Int32)) &&& (31 : Int32))).toInt8.toInt32), .int (nar .byte (own_al ((XT.ushr (own_bf (own_bf (own_bf (own_bf (0 : Int32) x0) x1) x2) x3) (7 : Int32)) &&& (31 : Int32))).toInt8.toInt32), .int (nar .byte (own_al ((XT.ushr (own_bf (own_bf (own_bf (own_bf (0 : Int32) x0) x1) x2) x3) (2 : Int32)) &&& (31 : Int32))).toInt8.toInt32), .int (nar .byte (own_al ((XT.ushr (own_bf (own_bf (own_bf (own_bf (own_bf (0 : Int32) x0) x1) x2) x3) x4) (5 : Int32)) &&& (31 : Int32))).toInt8.toInt32), .int (nar .byte (own_al ((XT.ushr (own_bf (own_bf (own_bf (own_bf (own_bf (0 : Int32) x0) x1) x2) x3) x4) (0 : Int32)) &&& (31 : Int32))).toInt8.toInt32), .int (nar .byte (own_al ((XT.ushr (own_bf (own_bf (own_bf (own_bf (own_bf (own_bf (0 : Int32) x0) x1) x2) x3) x4) x5) (3 : Int32)) &&& (31 : Int32))).toInt8.toInt32), .int (nar .byte (own_al ((XT.ushr (own_bf (own_bf (own_bf (own_bf (own_bf (own_bf (own_bf (0 : Int32) x0) x1) x2) x3) x4) x5) x6) (6 : Int32)) &&& (31 : Int32))).toInt8.toInt32), .int (nar .byte (own_al ((XT.ushr (own_bf (own_bf (own_bf (own_bf (own_bf (own_bf (own_bf (0 : Int32) x0) x1) x2) x3) x4) x5) x6) (1 : Int32)) &&& (31 : Int32))).toInt8.toInt32), .int (nar .byte (own_al ((XT.ushr (own_bf (own_bf (own_bf (own_bf (own_bf (own_bf (own_bf (own_bf (0 : Int32) x0) x1) x2) x3) x4) x5) x6) x7) (4 : Int32)) &&& (31 : Int32))).toInt8.toInt32), .int (nar .byte (own_al ((XT.ushr (own_bf (own_bf (own_bf (own_bf (own_bf (own_bf (own_bf (own_bf (own_bf (0 : Int32) x0) x1) x2) x3) x4) x5) x6) x7) x8) (7 : Int32)) &&& (31 : Int32))).toInt8.toInt32), .int (nar .byte (own_al ((XT.ushr (own_bf (own_bf (own_bf (own_bf (own_bf (own_bf (own_bf (own_bf (own_bf (0 : Int32) x0) x1) x2) x3) x4) x5) x6) x7) x8) (2 : Int32)) &&& (31 : Int32))).toInt8.toInt32), .int (nar .byte (own_al (((own_bf (own_bf (own_bf (own_bf (own_bf (own_bf (own_bf (own_bf (own_bf (0 : Int32) x0) x1) x2) x3) x4) x5) x6) x7) x8) <<< ((3 : Int32) &&& 31)) &&& (31 : Int32))).toInt8.toInt32)]
def own_E_9 (a c : Int64) : List Value := own_enc_9 (own_b0 a c) (own_b1 a c) (own_b2 a c) (own_b3 a c) (own_b4 a c) (own_b5 a c) (own_b6 a c) (own_b7 a c) (own_b8 a c)
theorem own_h_8_4 (a c : Int64) : ((XT.ushr (own_B5 a c) (3 : Int32)) &&& (31 : Int32)) = own_g (own_keep c 4) 0 := by
  rw [n_eq, own_ix_3 (own_B5 a c), own_g_0 _ (own_kp4 c), own_keep_4]
  have h := own_m5 a c
  generalize (own_B5 a c).toInt = q at *
  omega
theorem own_h_9_4 (a c : Int64) : ((XT.ushr (own_B6 a c) (6 : Int32)) &&& (31 : Int32)) = own_g (own_keep c 4) 1 := by
  rw [n_eq, own_ix_6 (own_B6 a c), own_g_1 _ (own_kp4 c), own_keep_4]
  have h := own_m6 a c
  generalize (own_B6 a c).toInt = q at *
  omega
theorem own_h_10_4 (a c : Int64) : ((XT.ushr (own_B6 a c) (1 : Int32)) &&& (31 : Int32)) = own_g (own_keep c 4) 2 := by
  rw [n_eq, own_ix_1 (own_B6 a c), own_g_2 _ (own_kp4 c), own_keep_4]
  have h := own_m6 a c
  generalize (own_B6 a c).toInt = q at *
  omega
theorem own_h_11_4 (a c : Int64) : ((XT.ushr (own_B7 a c) (4 : Int32)) &&& (31 : Int32)) = own_g (own_keep c 4) 3 := by
  rw [n_eq, own_ix_4 (own_B7 a c), own_g_3 _ (own_kp4 c), own_keep_4]
  have h := own_m7 a c
  generalize (own_B7 a c).toInt = q at *
  omega
theorem own_h_12_4 (a c : Int64) : ((XT.ushr (own_B8 a c) (7 : Int32)) &&& (31 : Int32)) = own_g (own_keep c 4) 4 := by
  rw [n_eq, own_ix_7 (own_B8 a c), own_g_4 _ (own_kp4 c), own_keep_4]
  have h := own_m8 a c
  generalize (own_B8 a c).toInt = q at *
  omega
theorem own_h_13_4 (a c : Int64) : ((XT.ushr (own_B8 a c) (2 : Int32)) &&& (31 : Int32)) = own_g (own_keep c 4) 5 := by
  rw [n_eq, own_ix_2 (own_B8 a c), own_g_5 _ (own_kp4 c), own_keep_4]
  have h := own_m8 a c
  generalize (own_B8 a c).toInt = q at *
  omega
theorem own_h_14_4 (a c : Int64) : (((own_B8 a c) <<< ((3 : Int32) &&& 31)) &&& (31 : Int32)) = own_g (own_keep c 4) 6 := by
  rw [n_eq, own_iy_3 (own_B8 a c), own_g_6 _ (own_kp4 c), own_keep_4]
  have h := own_m8 a c
  generalize (own_B8 a c).toInt = q at *
  omega
theorem own_all_9 (a c : Int64) (j : Nat) (hj : j < (own_E_9 a c).length) : ∃ x1 x2, (own_E_9 a c)[j]? = some (.int x1) ∧ (own_es (own_keep a 5) (own_keep c 4))[j]? = some (.int x2) ∧ own_ch x1 = x2 := by
  have hk : j < 15 := hj
  have hc : j = 0 ∨ j = 1 ∨ j = 2 ∨ j = 3 ∨ j = 4 ∨ j = 5 ∨ j = 6 ∨ j = 7 ∨ j = 8 ∨ j = 9 ∨ j = 10 ∨ j = 11 ∨ j = 12 ∨ j = 13 ∨ j = 14 := by omega
  simp only [own_E_9, own_enc_9, own_es]
  rcases hc with rfl | rfl | rfl | rfl | rfl | rfl | rfl | rfl | rfl | rfl | rfl | rfl | rfl | rfl | rfl
  · exact ⟨_, _, rfl, rfl, (own_fin (XT.ushr (own_B0 a c) 3)).trans (congrArg (fun z => nar .char (nar .char (own_sym z))) (own_h_0_5 a c))⟩
  · exact ⟨_, _, rfl, rfl, (own_fin (XT.ushr (own_B1 a c) 6)).trans (congrArg (fun z => nar .char (nar .char (own_sym z))) (own_h_1_5 a c))⟩
  · exact ⟨_, _, rfl, rfl, (own_fin (XT.ushr (own_B1 a c) 1)).trans (congrArg (fun z => nar .char (nar .char (own_sym z))) (own_h_2_5 a c))⟩
  · exact ⟨_, _, rfl, rfl, (own_fin (XT.ushr (own_B2 a c) 4)).trans (congrArg (fun z => nar .char (nar .char (own_sym z))) (own_h_3_5 a c))⟩
  · exact ⟨_, _, rfl, rfl, (own_fin (XT.ushr (own_B3 a c) 7)).trans (congrArg (fun z => nar .char (nar .char (own_sym z))) (own_h_4_5 a c))⟩
  · exact ⟨_, _, rfl, rfl, (own_fin (XT.ushr (own_B3 a c) 2)).trans (congrArg (fun z => nar .char (nar .char (own_sym z))) (own_h_5_5 a c))⟩
  · exact ⟨_, _, rfl, rfl, (own_fin (XT.ushr (own_B4 a c) 5)).trans (congrArg (fun z => nar .char (nar .char (own_sym z))) (own_h_6_5 a c))⟩
  · exact ⟨_, _, rfl, rfl, (own_fin (XT.ushr (own_B4 a c) 0)).trans (congrArg (fun z => nar .char (nar .char (own_sym z))) (own_h_7_5 a c))⟩
  · exact ⟨_, _, rfl, rfl, (own_fin (XT.ushr (own_B5 a c) 3)).trans (congrArg (fun z => nar .char (nar .char (own_sym z))) (own_h_8_4 a c))⟩
  · exact ⟨_, _, rfl, rfl, (own_fin (XT.ushr (own_B6 a c) 6)).trans (congrArg (fun z => nar .char (nar .char (own_sym z))) (own_h_9_4 a c))⟩
  · exact ⟨_, _, rfl, rfl, (own_fin (XT.ushr (own_B6 a c) 1)).trans (congrArg (fun z => nar .char (nar .char (own_sym z))) (own_h_10_4 a c))⟩
  · exact ⟨_, _, rfl, rfl, (own_fin (XT.ushr (own_B7 a c) 4)).trans (congrArg (fun z => nar .char (nar .char (own_sym z))) (own_h_11_4 a c))⟩
  · exact ⟨_, _, rfl, rfl, (own_fin (XT.ushr (own_B8 a c) 7)).trans (congrArg (fun z => nar .char (nar .char (own_sym z))) (own_h_12_4 a c))⟩
  · exact ⟨_, _, rfl, rfl, (own_fin (XT.ushr (own_B8 a c) 2)).trans (congrArg (fun z => nar .char (nar .char (own_sym z))) (own_h_13_4 a c))⟩
  · exact ⟨_, _, rfl, rfl, (own_fin ((own_B8 a c) <<< ((3 : Int32) &&& 31))).trans (congrArg (fun z => nar .char (nar .char (own_sym z))) (own_h_14_4 a c))⟩
def own_enc_10 (x0 x1 x2 x3 x4 x5 x6 x7 x8 x9 : Int32) : List Value := [.int (nar .byte (own_al ((XT.ushr (own_bf (0 : Int32) x0) (3 : Int32)) &&& (31 : Int32))).toInt8.toInt32), .int (nar .byte (own_al ((XT.ushr (own_bf (own_bf (0 : Int32) x0) x1) (6 : Int32)) &&& (31 : Int32))).toInt8.toInt32), .int (nar .byte (own_al ((XT.ushr (own_bf (own_bf (0 : Int32) x0) x1) (1 : Int32)) &&& (31 : Int32))).toInt8.toInt32), .int (nar .byte (own_al ((XT.ushr (own_bf (own_bf (own_bf (0 : Int32) x0) x1) x2) (4 : Int32)) &&& (31 : Int32))).toInt8.toInt32), .int (nar .byte (own_al ((XT.ushr (own_bf (own_bf (own_bf (own_bf (0 : Int32) x0) x1) x2) x3) (7 : Int32)) &&& (31 : Int32))).toInt8.toInt32), .int (nar .byte (own_al ((XT.ushr (own_bf (own_bf (own_bf (own_bf (0 : Int32) x0) x1) x2) x3) (2 : Int32)) &&& (31 : Int32))).toInt8.toInt32), .int (nar .byte (own_al ((XT.ushr (own_bf (own_bf (own_bf (own_bf (own_bf (0 : Int32) x0) x1) x2) x3) x4) (5 : Int32)) &&& (31 : Int32))).toInt8.toInt32), .int (nar .byte (own_al ((XT.ushr (own_bf (own_bf (own_bf (own_bf (own_bf (0 : Int32) x0) x1) x2) x3) x4) (0 : Int32)) &&& (31 : Int32))).toInt8.toInt32), .int (nar .byte (own_al ((XT.ushr (own_bf (own_bf (own_bf (own_bf (own_bf (own_bf (0 : Int32) x0) x1) x2) x3) x4) x5) (3 : Int32)) &&& (31 : Int32))).toInt8.toInt32), .int (nar .byte (own_al ((XT.ushr (own_bf (own_bf (own_bf (own_bf (own_bf (own_bf (own_bf (0 : Int32) x0) x1) x2) x3) x4) x5) x6) (6 : Int32)) &&& (31 : Int32))).toInt8.toInt32), .int (nar .byte (own_al ((XT.ushr (own_bf (own_bf (own_bf (own_bf (own_bf (own_bf (own_bf (0 : Int32) x0) x1) x2) x3) x4) x5) x6) (1 : Int32)) &&& (31 : Int32))).toInt8.toInt32), .int (nar .byte (own_al ((XT.ushr (own_bf (own_bf (own_bf (own_bf (own_bf (own_bf (own_bf (own_bf (0 : Int32) x0) x1) x2) x3) x4) x5) x6) x7) (4 : Int32)) &&& (31 : Int32))).toInt8.toInt32), .int (nar .byte (own_al ((XT.ushr (own_bf (own_bf (own_bf (own_bf (own_bf (own_bf (own_bf (own_bf (own_bf (0 : Int32) x0) x1) x2) x3) x4) x5) x6) x7) x8) (7 : Int32)) &&& (31 : Int32))).toInt8.toInt32), .int (nar .byte (own_al ((XT.ushr (own_bf (own_bf (own_bf (own_bf (own_bf (own_bf (own_bf (own_bf (own_bf (0 : Int32) x0) x1) x2) x3) x4) x5) x6) x7) x8) (2 : Int32)) &&& (31 : Int32))).toInt8.toInt32), .int (nar .byte (own_al ((XT.ushr (own_bf (own_bf (own_bf (own_bf (own_bf (own_bf (own_bf (own_bf (own_bf (own_bf (0 : Int32) x0) x1) x2) x3) x4) x5) x6) x7) x8) x9) (5 : Int32)) &&& (31 : Int32))).toInt8.toInt32), .int (nar .byte (own_al ((XT.ushr (own_bf (own_bf (own_bf (own_bf (own_bf (own_bf (own_bf (own_bf (own_bf (own_bf (0 : Int32) x0) x1) x2) x3) x4) x5) x6) x7) x8) x9) (0 : Int32)) &&& (31 : Int32))).toInt8.toInt32)]
def own_E_10 (a c : Int64) : List Value := own_enc_10 (own_b0 a c) (own_b1 a c) (own_b2 a c) (own_b3 a c) (own_b4 a c) (own_b5 a c) (own_b6 a c) (own_b7 a c) (own_b8 a c) (own_b9 a c)
theorem own_h_8_5 (a c : Int64) : ((XT.ushr (own_B5 a c) (3 : Int32)) &&& (31 : Int32)) = own_g (own_keep c 5) 0 := by
  rw [n_eq, own_ix_3 (own_B5 a c), own_g_0 _ (own_kp5 c), own_keep_5]
  have h := own_m5 a c
  generalize (own_B5 a c).toInt = q at *
  omega
theorem own_h_9_5 (a c : Int64) : ((XT.ushr (own_B6 a c) (6 : Int32)) &&& (31 : Int32)) = own_g (own_keep c 5) 1 := by
  rw [n_eq, own_ix_6 (own_B6 a c), own_g_1 _ (own_kp5 c), own_keep_5]
  have h := own_m6 a c
  generalize (own_B6 a c).toInt = q at *
  omega
theorem own_h_10_5 (a c : Int64) : ((XT.ushr (own_B6 a c) (1 : Int32)) &&& (31 : Int32)) = own_g (own_keep c 5) 2 := by
  rw [n_eq, own_ix_1 (own_B6 a c), own_g_2 _ (own_kp5 c), own_keep_5]
  have h := own_m6 a c
  generalize (own_B6 a c).toInt = q at *
  omega
theorem own_h_11_5 (a c : Int64) : ((XT.ushr (own_B7 a c) (4 : Int32)) &&& (31 : Int32)) = own_g (own_keep c 5) 3 := by
  rw [n_eq, own_ix_4 (own_B7 a c), own_g_3 _ (own_kp5 c), own_keep_5]
  have h := own_m7 a c
  generalize (own_B7 a c).toInt = q at *
  omega
theorem own_h_12_5 (a c : Int64) : ((XT.ushr (own_B8 a c) (7 : Int32)) &&& (31 : Int32)) = own_g (own_keep c 5) 4 := by
  rw [n_eq, own_ix_7 (own_B8 a c), own_g_4 _ (own_kp5 c), own_keep_5]
  have h := own_m8 a c
  generalize (own_B8 a c).toInt = q at *
  omega
theorem own_h_13_5 (a c : Int64) : ((XT.ushr (own_B8 a c) (2 : Int32)) &&& (31 : Int32)) = own_g (own_keep c 5) 5 := by
  rw [n_eq, own_ix_2 (own_B8 a c), own_g_5 _ (own_kp5 c), own_keep_5]
  have h := own_m8 a c
  generalize (own_B8 a c).toInt = q at *
  omega
theorem own_h_14_5 (a c : Int64) : ((XT.ushr (own_B9 a c) (5 : Int32)) &&& (31 : Int32)) = own_g (own_keep c 5) 6 := by
  rw [n_eq, own_ix_5 (own_B9 a c), own_g_6 _ (own_kp5 c), own_keep_5]
  have h := own_m9 a c
  generalize (own_B9 a c).toInt = q at *
  omega
theorem own_h_15_5 (a c : Int64) : ((XT.ushr (own_B9 a c) (0 : Int32)) &&& (31 : Int32)) = own_g (own_keep c 5) 7 := by
  rw [n_eq, own_ix_0 (own_B9 a c), own_g_7 _ (own_kp5 c), own_keep_5]
  have h := own_m9 a c
  generalize (own_B9 a c).toInt = q at *
  omega
theorem own_all_10 (a c : Int64) (j : Nat) (hj : j < (own_E_10 a c).length) : ∃ x1 x2, (own_E_10 a c)[j]? = some (.int x1) ∧ (own_es (own_keep a 5) (own_keep c 5))[j]? = some (.int x2) ∧ own_ch x1 = x2 := by
  have hk : j < 16 := hj
  have hc : j = 0 ∨ j = 1 ∨ j = 2 ∨ j = 3 ∨ j = 4 ∨ j = 5 ∨ j = 6 ∨ j = 7 ∨ j = 8 ∨ j = 9 ∨ j = 10 ∨ j = 11 ∨ j = 12 ∨ j = 13 ∨ j = 14 ∨ j = 15 := by omega
  simp only [own_E_10, own_enc_10, own_es]
  rcases hc with rfl | rfl | rfl | rfl | rfl | rfl | rfl | rfl | rfl | rfl | rfl | rfl | rfl | rfl | rfl | rfl
  · exact ⟨_, _, rfl, rfl, (own_fin (XT.ushr (own_B0 a c) 3)).trans (congrArg (fun z => nar .char (nar .char (own_sym z))) (own_h_0_5 a c))⟩
  · exact ⟨_, _, rfl, rfl, (own_fin (XT.ushr (own_B1 a c) 6)).trans (congrArg (fun z => nar .char (nar .char (own_sym z))) (own_h_1_5 a c))⟩
  · exact ⟨_, _, rfl, rfl, (own_fin (XT.ushr (own_B1 a c) 1)).trans (congrArg (fun z => nar .char (nar .char (own_sym z))) (own_h_2_5 a c))⟩
  · exact ⟨_, _, rfl, rfl, (own_fin (XT.ushr (own_B2 a c) 4)).trans (congrArg (fun z => nar .char (nar .char (own_sym z))) (own_h_3_5 a c))⟩
  · exact ⟨_, _, rfl, rfl, (own_fin (XT.ushr (own_B3 a c) 7)).trans (congrArg (fun z => nar .char (nar .char (own_sym z))) (own_h_4_5 a c))⟩
  · exact ⟨_, _, rfl, rfl, (own_fin (XT.ushr (own_B3 a c) 2)).trans (congrArg (fun z => nar .char (nar .char (own_sym z))) (own_h_5_5 a c))⟩
  · exact ⟨_, _, rfl, rfl, (own_fin (XT.ushr (own_B4 a c) 5)).trans (congrArg (fun z => nar .char (nar .char (own_sym z))) (own_h_6_5 a c))⟩
  · exact ⟨_, _, rfl, rfl, (own_fin (XT.ushr (own_B4 a c) 0)).trans (congrArg (fun z => nar .char (nar .char (own_sym z))) (own_h_7_5 a c))⟩
  · exact ⟨_, _, rfl, rfl, (own_fin (XT.ushr (own_B5 a c) 3)).trans (congrArg (fun z => nar .char (nar .char (own_sym z))) (own_h_8_5 a c))⟩
  · exact ⟨_, _, rfl, rfl, (own_fin (XT.ushr (own_B6 a c) 6)).trans (congrArg (fun z => nar .char (nar .char (own_sym z))) (own_h_9_5 a c))⟩
  · exact ⟨_, _, rfl, rfl, (own_fin (XT.ushr (own_B6 a c) 1)).trans (congrArg (fun z => nar .char (nar .char (own_sym z))) (own_h_10_5 a c))⟩
  · exact ⟨_, _, rfl, rfl, (own_fin (XT.ushr (own_B7 a c) 4)).trans (congrArg (fun z => nar .char (nar .char (own_sym z))) (own_h_11_5 a c))⟩
  · exact ⟨_, _, rfl, rfl, (own_fin (XT.ushr (own_B8 a c) 7)).trans (congrArg (fun z => nar .char (nar .char (own_sym z))) (own_h_12_5 a c))⟩
  · exact ⟨_, _, rfl, rfl, (own_fin (XT.ushr (own_B8 a c) 2)).trans (congrArg (fun z => nar .char (nar .char (own_sym z))) (own_h_13_5 a c))⟩
  · exact ⟨_, _, rfl, rfl, (own_fin (XT.ushr (own_B9 a c) 5)).trans (congrArg (fun z => nar .char (nar .char (own_sym z))) (own_h_14_5 a c))⟩
  · exact ⟨_, _, rfl, rfl, (own_fin (XT.ushr (own_B9 a c) 0)).trans (congrArg (fun z => nar .char (nar .char (own_sym z))) (own_h_15_5 a c))⟩
theorem own_cix {Z : State} {h : Heap} {a : Addr} {vs : List Value} {ty : FieldType} (A : oA ty Z h a vs) {p : Int32} {j : Nat} (hj : p.toInt = (j : Int)) {v : Value} (hv : vs[j]? = some v) : ¬ p < 0 ∧ p < vs.length.toInt32 := by
  have q := A.1; have l := o_lt_of hv
  have e : (vs.length.toInt32).toInt = vs.length := o_ofNat q
  have e0 : (0 : Int32).toInt = 0 := rfl
  rw [n_lt, n_lt, e, e0]; omega
theorem own_shr0 (x : Int32) : x >>> ((0 : Int32) &&& 31) = x := by
  have e := c_ishr x 0 0 (by decide)
  rw [n_eq, e]; omega
theorem own_cap {q : Int32} {j n : Nat} (hq : q.toInt = (j : Int)) (hj : j < n) (hn : n ≤ 16) : ¬ 0 < (q + 1 - (n.toInt32 >>> ((0 : Int32) &&& 31))) := by
  have e : (n.toInt32).toInt = n := o_ofNat (by omega)
  have h1 := c_iadd q 1; have h2 := c_isub (q + 1) n.toInt32; have e1 : (1 : Int32).toInt = 1 := rfl; have e0 : (0 : Int32).toInt = 0 := rfl
  rw [own_shr0, n_lt, e0]
  have h3 := Int32.toInt_lt (q + 1); have h4 := Int32.le_toInt (q + 1); have h5 := Int32.toInt_lt (q + 1 - n.toInt32); have h6 := Int32.le_toInt (q + 1 - n.toInt32)
  omega
theorem own_nx1 {q : Int32} {j : Nat} (hq : q.toInt = (j : Int)) (hj : j < 16) : (q + 1).toInt = ((j + 1 : Nat) : Int) := by
  have h1 := c_iadd q 1; have e1 : (1 : Int32).toInt = 1 := rfl
  have h3 := Int32.toInt_lt (q + 1); have h4 := Int32.le_toInt (q + 1)
  omega
theorem d11_0 : decode jdk_68_method_68_code 0 = .ok (.getstatic 18, 3) := by decide +kernel
theorem d11_3 : decode jdk_68_method_68_code 3 = .ok (.ifCond .eq 14, 3) := by decide +kernel
theorem d11_6 : decode jdk_68_method_68_code 6 = .ok (.aload_n 0, 1) := by decide +kernel
theorem d11_7 : decode jdk_68_method_68_code 7 = .ok (.getfield 22, 3) := by decide +kernel
theorem d11_10 : decode jdk_68_method_68_code 10 = .ok (.ifCond .ne 7, 3) := by decide +kernel
theorem d11_13 : decode jdk_68_method_68_code 13 = .ok (.iconst 1, 1) := by decide +kernel
theorem d11_14 : decode jdk_68_method_68_code 14 = .ok (.goto 4, 3) := by decide +kernel
theorem d11_18 : decode jdk_68_method_68_code 18 = .ok (.ireturn, 1) := by decide +kernel
theorem pn11 : plainFor (⟨"java/lang/AbstractStringBuilder", "isLatin1", "()Z"⟩ : MethodName) = true := plainFor_of_name (by first | (simp [plainName, overriddenIn]; done) | decide +kernel)
theorem pd11 : parseMethodDescriptor "()Z" = some ⟨[], some .boolean⟩ := by decide +kernel
set_option maxRecDepth 65536 in
set_option maxHeartbeats 40000000 in
theorem rm11 (l : Launch) (Z : State) (a0 : Array Value) (hw : ∀ d ∈ tables_1, d.before a0 Z = true) (a1 : Addr) (cs : Int32) (h0 : Heap) (n0 : Nat) (Z0 : n0 ≤ h0.size) (F_coder_a1 : Fld Z h0 a1 "java/lang/AbstractStringBuilder" "coder" "B" (.int (0 : Int32))) (S_c : Sta Z h0 "java/lang/String" "COMPACT_STRINGS" "Z" (.int cs)) (hcs : ¬ cs = 0) :
    oC l Z n0 (⟨"java/lang/AbstractStringBuilder", "isLatin1", "()Z"⟩ : MethodName) jdk_68_method_68_code 1 (some .boolean) ({ frames := 0, cells := 0, slots := 0, locals := 0 } : Room) 0 0 #[(.ref a1)] h0 (fun v h => v = some (.int 1) ∧ h0 = h) := by
  refine oC.of (L := #[.val (.ref a1)]) pn11 Z0 (fun m => by first | (simp [entryFrame, mkF, argsToLocals, Value.category]; done) | rfl) ?_
  intro p e s m below meth c T H
  refine o_getS H (host := "") (Or.inl (w21 hw)) S_c d11_0 rfl ?_
  intro T1 H2
  refine o_if_f H2 d11_3 (XT.i0_eq_f hcs) rfl ?_
  refine o_aloadN H2 rfl rfl d11_6 rfl ?_
  refine o_getF H2 (host := "") (Or.inl (w25 hw)) F_coder_a1 d11_7 rfl ?_
  intro T3 H4
  refine o_if_f H4 d11_10 (by decide) rfl ?_
  refine o_iconst H4 (1 : Int32) rfl d11_13 rfl ?_
  refine o_goto H4 d11_14 (pt := 18) (by decide) (by decide) ?_
  exact o_nreturn H4 .boolean rfl (by simp) d11_18 (by decide) (by decide) ⟨rfl, rfl⟩
theorem d26_0 : decode jdk_42_method_154_code 0 = .ok (.getstatic 38, 3) := by decide +kernel
theorem d26_3 : decode jdk_42_method_154_code 3 = .ok (.ifCond .eq 14, 3) := by decide +kernel
theorem d26_6 : decode jdk_42_method_154_code 6 = .ok (.aload_n 0, 1) := by decide +kernel
theorem d26_7 : decode jdk_42_method_154_code 7 = .ok (.getfield 15, 3) := by decide +kernel
theorem d26_10 : decode jdk_42_method_154_code 10 = .ok (.ifCond .ne 7, 3) := by decide +kernel
theorem d26_13 : decode jdk_42_method_154_code 13 = .ok (.iconst 1, 1) := by decide +kernel
theorem d26_14 : decode jdk_42_method_154_code 14 = .ok (.goto 4, 3) := by decide +kernel
theorem d26_18 : decode jdk_42_method_154_code 18 = .ok (.ireturn, 1) := by decide +kernel
theorem pn26 : plainFor (⟨"java/lang/String", "isLatin1", "()Z"⟩ : MethodName) = true := plainFor_of_name (by first | (simp [plainName, overriddenIn]; done) | decide +kernel)
theorem pd26 : parseMethodDescriptor "()Z" = some ⟨[], some .boolean⟩ := by decide +kernel
set_option maxRecDepth 65536 in
set_option maxHeartbeats 40000000 in
theorem rm26 (l : Launch) (Z : State) (a0 : Array Value) (hw : ∀ d ∈ tables_1, d.before a0 Z = true) (a1 : Addr) (cs : Int32) (h0 : Heap) (n0 : Nat) (Z0 : n0 ≤ h0.size) (F_coder_a1 : Fld Z h0 a1 "java/lang/String" "coder" "B" (.int (0 : Int32))) (S_c : Sta Z h0 "java/lang/String" "COMPACT_STRINGS" "Z" (.int cs)) (hcs : ¬ cs = 0) :
    oC l Z n0 (⟨"java/lang/String", "isLatin1", "()Z"⟩ : MethodName) jdk_42_method_154_code 1 (some .boolean) ({ frames := 0, cells := 0, slots := 0, locals := 0 } : Room) 0 0 #[(.ref a1)] h0 (fun v h => v = some (.int 1) ∧ h0 = h) := by
  refine oC.of (L := #[.val (.ref a1)]) pn26 Z0 (fun m => by first | (simp [entryFrame, mkF, argsToLocals, Value.category]; done) | rfl) ?_
  intro p e s m below meth c T H
  refine o_getS H (host := "") (Or.inl (w111 hw)) S_c d26_0 rfl ?_
  intro T1 H2
  refine o_if_f H2 d26_3 (XT.i0_eq_f hcs) rfl ?_
  refine o_aloadN H2 rfl rfl d26_6 rfl ?_
  refine o_getF H2 (host := "") (Or.inl (w63 hw)) F_coder_a1 d26_7 rfl ?_
  intro T3 H4
  refine o_if_f H4 d26_10 (by decide) rfl ?_
  refine o_iconst H4 (1 : Int32) rfl d26_13 rfl ?_
  refine o_goto H4 d26_14 (pt := 18) (by decide) (by decide) ?_
  exact o_nreturn H4 .boolean rfl (by simp) d26_18 (by decide) (by decide) ⟨rfl, rfl⟩
theorem d24_0 : decode jdk_43_method_3_code 0 = .ok (.iload_n 0, 1) := by decide +kernel
theorem d24_1 : decode jdk_43_method_3_code 1 = .ok (.sipush 255, 3) := by decide +kernel
theorem d24_4 : decode jdk_43_method_3_code 4 = .ok (.if_icmp .gt 7, 3) := by decide +kernel
theorem d24_7 : decode jdk_43_method_3_code 7 = .ok (.iconst 1, 1) := by decide +kernel
theorem d24_8 : decode jdk_43_method_3_code 8 = .ok (.goto 4, 3) := by decide +kernel
theorem d24_12 : decode jdk_43_method_3_code 12 = .ok (.ireturn, 1) := by decide +kernel
theorem pn24 : plainFor (⟨"java/lang/StringLatin1", "canEncode", "(C)Z"⟩ : MethodName) = true := plainFor_of_name (by first | (simp [plainName, overriddenIn]; done) | decide +kernel)
theorem pd24 : parseMethodDescriptor "(C)Z" = some ⟨[.char], some .boolean⟩ := by decide +kernel
set_option maxRecDepth 65536 in
set_option maxHeartbeats 40000000 in
theorem rm24 (l : Launch) (Z : State) (a0 : Array Value) (hw : ∀ d ∈ tables_1, d.before a0 Z = true) (p1 : Int32)  (h0 : Heap) (n0 : Nat) (Z0 : n0 ≤ h0.size) (hp : ¬ 255 < p1) :
    oC l Z n0 (⟨"java/lang/StringLatin1", "canEncode", "(C)Z"⟩ : MethodName) jdk_43_method_3_code 1 (some .boolean) ({ frames := 0, cells := 0, slots := 0, locals := 0 } : Room) 0 0 #[(.int p1)] h0 (fun v h => v = some (.int 1) ∧ h0 = h) := by
  refine oC.of (L := #[.val (.int p1)]) pn24 Z0 (fun m => by first | (simp [entryFrame, mkF, argsToLocals, Value.category]; done) | rfl) ?_
  intro p e s m below meth c T H
  refine o_iloadN H rfl d24_0 rfl ?_
  refine o_sipush H (255 : Int32) rfl d24_1 rfl ?_
  refine o_icmp_f H d24_4 (XT.ii_gt_f hp) rfl ?_
  refine o_iconst H (1 : Int32) rfl d24_7 rfl ?_
  refine o_goto H d24_8 (pt := 12) (by decide) (by decide) ?_
  exact o_nreturn H .boolean rfl (by simp) d24_12 (by decide) (by decide) ⟨rfl, rfl⟩
theorem d8_0 : decode jdk_68_method_64_code 0 = .ok (.aload_n 0, 1) := by decide +kernel
theorem d8_1 : decode jdk_68_method_64_code 1 = .ok (.getfield 15, 3) := by decide +kernel
theorem d8_4 : decode jdk_68_method_64_code 4 = .ok (.areturn, 1) := by decide +kernel
theorem pn8 : plainFor (⟨"java/lang/AbstractStringBuilder", "getValue", "()[B"⟩ : MethodName) = true := plainFor_of_name (by first | (simp [plainName, overriddenIn]; done) | decide +kernel)
theorem pd8 : parseMethodDescriptor "()[B" = some ⟨[], some (.array .byte)⟩ := by decide +kernel
set_option maxRecDepth 65536 in
set_option maxHeartbeats 40000000 in
theorem rm8 (l : Launch) (Z : State) (a0 : Array Value) (hw : ∀ d ∈ tables_1, d.before a0 Z = true) (a1 : Addr) (vb : Addr) (h0 : Heap) (n0 : Nat) (Z0 : n0 ≤ h0.size) (F_value_a1 : Fld Z h0 a1 "java/lang/AbstractStringBuilder" "value" "[B" (.ref vb)) :
    oC l Z n0 (⟨"java/lang/AbstractStringBuilder", "getValue", "()[B"⟩ : MethodName) jdk_68_method_64_code 1 (some (.array .byte)) ({ frames := 0, cells := 0, slots := 0, locals := 0 } : Room) 0 0 #[(.ref a1)] h0 (fun v h => v = some (.ref vb) ∧ h0 = h) := by
  refine oC.of (L := #[.val (.ref a1)]) pn8 Z0 (fun m => by first | (simp [entryFrame, mkF, argsToLocals, Value.category]; done) | rfl) ?_
  intro p e s m below meth c T H
  refine o_aloadN H rfl rfl d8_0 rfl ?_
  refine o_getF H (host := "") (Or.inl (w23 hw)) F_value_a1 d8_1 rfl ?_
  intro T1 H2
  exact o_areturn H2 rfl rfl rfl rfl d8_4 (by decide) (by decide) ⟨rfl, rfl⟩
theorem d10_0 : decode jdk_68_method_6_code 0 = .ok (.aload_n 0, 1) := by decide +kernel
theorem d10_1 : decode jdk_68_method_6_code 1 = .ok (.getfield 79, 3) := by decide +kernel
theorem d10_4 : decode jdk_68_method_6_code 4 = .ok (.ireturn, 1) := by decide +kernel
theorem pn10 : plainFor (⟨"java/lang/AbstractStringBuilder", "length", "()I"⟩ : MethodName) = true := plainFor_of_name (by first | (simp [plainName, overriddenIn]; done) | decide +kernel)
theorem pd10 : parseMethodDescriptor "()I" = some ⟨[], some .int⟩ := by decide +kernel
set_option maxRecDepth 65536 in
set_option maxHeartbeats 40000000 in
theorem rm10 (l : Launch) (Z : State) (a0 : Array Value) (hw : ∀ d ∈ tables_1, d.before a0 Z = true) (a1 : Addr) (q1 : Int32) (h0 : Heap) (n0 : Nat) (Z0 : n0 ≤ h0.size) (F_count_a1 : Fld Z h0 a1 "java/lang/AbstractStringBuilder" "count" "I" (.int q1)) :
    oC l Z n0 (⟨"java/lang/AbstractStringBuilder", "length", "()I"⟩ : MethodName) jdk_68_method_6_code 1 (some .int) ({ frames := 0, cells := 0, slots := 0, locals := 0 } : Room) 0 0 #[(.ref a1)] h0 (fun v h => v = some (.int q1) ∧ h0 = h) := by
  refine oC.of (L := #[.val (.ref a1)]) pn10 Z0 (fun m => by first | (simp [entryFrame, mkF, argsToLocals, Value.category]; done) | rfl) ?_
  intro p e s m below meth c T H
  refine o_aloadN H rfl rfl d10_0 rfl ?_
  refine o_getF H (host := "") (Or.inl (w56 hw)) F_count_a1 d10_1 rfl ?_
  intro T1 H2
  exact o_ireturn H2 rfl d10_4 (by decide) (by decide) ⟨rfl, rfl⟩
theorem d9_0 : decode jdk_67_method_93_code 0 = .ok (.aload_n 0, 1) := by decide +kernel
theorem d9_1 : decode jdk_67_method_93_code 1 = .ok (.invokespecial 343, 3) := by decide +kernel
theorem d9_4 : decode jdk_67_method_93_code 4 = .ok (.ireturn, 1) := by decide +kernel
theorem pn9 : plainFor (⟨"java/lang/StringBuilder", "length", "()I"⟩ : MethodName) = true := plainFor_of_name (by first | (simp [plainName, overriddenIn]; done) | decide +kernel)
theorem pd9 : parseMethodDescriptor "()I" = some ⟨[], some .int⟩ := by decide +kernel
set_option maxRecDepth 65536 in
set_option maxHeartbeats 40000000 in
theorem rm9 (l : Launch) (Z : State) (a0 : Array Value) (hw : ∀ d ∈ tables_1, d.before a0 Z = true) (a1 : Addr) (q1 : Int32) (h0 : Heap) (n0 : Nat) (Z0 : n0 ≤ h0.size) (E_a1 : Exa Z h0 a1 "java/lang/StringBuilder") (F_count_a1 : Fld Z h0 a1 "java/lang/AbstractStringBuilder" "count" "I" (.int q1)) :
    oC l Z n0 (⟨"java/lang/StringBuilder", "length", "()I"⟩ : MethodName) jdk_67_method_93_code 1 (some .int) ({ frames := 1, cells := 0, slots := 0, locals := 14 } : Room) 0 0 #[(.ref a1)] h0 (fun v h => v = some (.int q1) ∧ h0 = h) := by
  refine oC.of (L := #[.val (.ref a1)]) pn9 Z0 (fun m => by first | (simp [entryFrame, mkF, argsToLocals, Value.category]; done) | rfl) ?_
  intro p e s m below meth c T H
  refine o_aloadN H rfl rfl d9_0 rfl ?_
  refine o_super H [] [] (rm10 l Z a0 hw a1 q1 h0 n0 H.le F_count_a1) (Ins.self E_a1) (by decide) (w53 hw) (o_same (w49 hw) (w45 hw) rfl (by decide)) (w54 hw) (w49 hw) (w16 hw) (w55 hw) (by decide) (lenOf pd10 rfl) rfl rfl (by decide) (Nat.le_of_ble_eq_true rfl) (by decide) (by decide) d9_1 rfl ?_
  intro T1 v1 h1 H1 q1
  obtain ⟨rfl, rfl⟩ := q1
  show oG p e below s n0 _ _ _ (T1.setTop (mkF m 4 #[.val (.ref a1)] [(.int q1)]))
  exact o_ireturn H1 rfl d9_4 (by decide) (by decide) ⟨rfl, rfl⟩
theorem d23_0 : decode jdk_68_method_9_code 0 = .ok (.aload_n 0, 1) := by decide +kernel
theorem d23_1 : decode jdk_68_method_9_code 1 = .ok (.getfield 15, 3) := by decide +kernel
theorem d23_4 : decode jdk_68_method_9_code 4 = .ok (.arraylength, 1) := by decide +kernel
theorem d23_5 : decode jdk_68_method_9_code 5 = .ok (.aload_n 0, 1) := by decide +kernel
theorem d23_6 : decode jdk_68_method_9_code 6 = .ok (.getfield 22, 3) := by decide +kernel
theorem d23_9 : decode jdk_68_method_9_code 9 = .ok (.ishr, 1) := by decide +kernel
theorem d23_10 : decode jdk_68_method_9_code 10 = .ok (.istore_n 2, 1) := by decide +kernel
theorem d23_11 : decode jdk_68_method_9_code 11 = .ok (.iload_n 1, 1) := by decide +kernel
theorem d23_12 : decode jdk_68_method_9_code 12 = .ok (.iload_n 2, 1) := by decide +kernel
theorem d23_13 : decode jdk_68_method_9_code 13 = .ok (.isub, 1) := by decide +kernel
theorem d23_14 : decode jdk_68_method_9_code 14 = .ok (.ifCond .le 24, 3) := by decide +kernel
theorem d23_38 : decode jdk_68_method_9_code 38 = .ok (.return_, 1) := by decide +kernel
theorem pn23 : plainFor (⟨"java/lang/AbstractStringBuilder", "ensureCapacityInternal", "(I)V"⟩ : MethodName) = true := plainFor_of_name (by first | (simp [plainName, overriddenIn]; done) | decide +kernel)
theorem pd23 : parseMethodDescriptor "(I)V" = some ⟨[.int], none⟩ := by decide +kernel
set_option maxRecDepth 65536 in
set_option maxHeartbeats 40000000 in
theorem rm23 (l : Launch) (Z : State) (a0 : Array Value) (hw : ∀ d ∈ tables_1, d.before a0 Z = true) (a1 : Addr) (p1 : Int32) (vb : Addr) (vs : List Value) (h0 : Heap) (n0 : Nat) (Z0 : n0 ≤ h0.size) (F_value_a1 : Fld Z h0 a1 "java/lang/AbstractStringBuilder" "value" "[B" (.ref vb)) (F_coder_a1 : Fld Z h0 a1 "java/lang/AbstractStringBuilder" "coder" "B" (.int (0 : Int32))) (AV : oA .byte Z h0 vb vs) (hle : ¬ 0 < (p1 - (vs.length.toInt32 >>> ((0 : Int32) &&& 31)))) :
    oC l Z n0 (⟨"java/lang/AbstractStringBuilder", "ensureCapacityInternal", "(I)V"⟩ : MethodName) jdk_68_method_9_code 3 none ({ frames := 0, cells := 0, slots := 0, locals := 0 } : Room) 0 0 #[(.ref a1), (.int p1)] h0 (fun v h => v = none ∧ h0 = h) := by
  refine oC.of (L := #[.val (.ref a1), .val (.int p1), .unset]) pn23 Z0 (fun m => by first | (simp [entryFrame, mkF, argsToLocals, Value.category]; done) | rfl) ?_
  intro p e s m below meth c T H
  refine o_aloadN H rfl rfl d23_0 rfl ?_
  refine o_getF H (host := "") (Or.inl (w23 hw)) F_value_a1 d23_1 rfl ?_
  intro T1 H2
  refine o_arraylength H2 (vs.length.toInt32) AV rfl d23_4 rfl ?_
  refine o_aloadN H2 rfl rfl d23_5 rfl ?_
  refine o_getF H2 (host := "") (Or.inl (w25 hw)) F_coder_a1 d23_6 rfl ?_
  intro T3 H4
  refine o_ishr H4 d23_9 rfl ?_
  refine o_istoreN H4 (L' := #[.val (.ref a1), .val (.int p1), .val (.int ((vs.length.toInt32) >>> ((0 : Int32) &&& 31)))]) rfl d23_10 rfl ?_
  refine o_iloadN H4 rfl d23_11 rfl ?_
  refine o_iloadN H4 rfl d23_12 rfl ?_
  refine o_isub H4 d23_13 rfl ?_
  refine o_if_t H4 d23_14 (XT.i0_le_t hle) (pt := 38) (by decide) (by decide) ?_
  exact o_return H4 rfl d23_38 (by decide) (by decide) ⟨rfl, rfl⟩
theorem d22_0 : decode jdk_68_method_31_code 0 = .ok (.aload_n 0, 1) := by decide +kernel
theorem d22_1 : decode jdk_68_method_31_code 1 = .ok (.aload_n 0, 1) := by decide +kernel
theorem d22_2 : decode jdk_68_method_31_code 2 = .ok (.getfield 79, 3) := by decide +kernel
theorem d22_5 : decode jdk_68_method_31_code 5 = .ok (.iconst 1, 1) := by decide +kernel
theorem d22_6 : decode jdk_68_method_31_code 6 = .ok (.iadd, 1) := by decide +kernel
theorem d22_7 : decode jdk_68_method_31_code 7 = .ok (.invokevirtual 100, 3) := by decide +kernel
theorem d22_10 : decode jdk_68_method_31_code 10 = .ok (.aload_n 0, 1) := by decide +kernel
theorem d22_11 : decode jdk_68_method_31_code 11 = .ok (.invokevirtual 83, 3) := by decide +kernel
theorem d22_14 : decode jdk_68_method_31_code 14 = .ok (.ifCond .eq 31, 3) := by decide +kernel
theorem d22_17 : decode jdk_68_method_31_code 17 = .ok (.iload_n 1, 1) := by decide +kernel
theorem d22_18 : decode jdk_68_method_31_code 18 = .ok (.invokestatic 191, 3) := by decide +kernel
theorem d22_21 : decode jdk_68_method_31_code 21 = .ok (.ifCond .eq 24, 3) := by decide +kernel
theorem d22_24 : decode jdk_68_method_31_code 24 = .ok (.aload_n 0, 1) := by decide +kernel
theorem d22_25 : decode jdk_68_method_31_code 25 = .ok (.getfield 15, 3) := by decide +kernel
theorem d22_28 : decode jdk_68_method_31_code 28 = .ok (.aload_n 0, 1) := by decide +kernel
theorem d22_29 : decode jdk_68_method_31_code 29 = .ok (.dup, 1) := by decide +kernel
theorem d22_30 : decode jdk_68_method_31_code 30 = .ok (.getfield 79, 3) := by decide +kernel
theorem d22_33 : decode jdk_68_method_31_code 33 = .ok (.dup_x1, 1) := by decide +kernel
theorem d22_34 : decode jdk_68_method_31_code 34 = .ok (.iconst 1, 1) := by decide +kernel
theorem d22_35 : decode jdk_68_method_31_code 35 = .ok (.iadd, 1) := by decide +kernel
theorem d22_36 : decode jdk_68_method_31_code 36 = .ok (.putfield 79, 3) := by decide +kernel
theorem d22_39 : decode jdk_68_method_31_code 39 = .ok (.iload_n 1, 1) := by decide +kernel
theorem d22_40 : decode jdk_68_method_31_code 40 = .ok (.i2b, 1) := by decide +kernel
theorem d22_41 : decode jdk_68_method_31_code 41 = .ok (.bastore, 1) := by decide +kernel
theorem d22_42 : decode jdk_68_method_31_code 42 = .ok (.goto 33, 3) := by decide +kernel
theorem d22_75 : decode jdk_68_method_31_code 75 = .ok (.aload_n 0, 1) := by decide +kernel
theorem d22_76 : decode jdk_68_method_31_code 76 = .ok (.areturn, 1) := by decide +kernel
theorem pn22 : plainFor (⟨"java/lang/AbstractStringBuilder", "append", "(C)Ljava/lang/AbstractStringBuilder;"⟩ : MethodName) = true := plainFor_of_name (by first | (simp [plainName, overriddenIn]; done) | decide +kernel)
theorem pd22 : parseMethodDescriptor "(C)Ljava/lang/AbstractStringBuilder;" = some ⟨[.char], some (.object "java/lang/AbstractStringBuilder")⟩ := by decide +kernel
set_option maxRecDepth 65536 in
set_option maxHeartbeats 40000000 in
theorem rm22 (l : Launch) (Z : State) (a0 : Array Value) (hw : ∀ d ∈ tables_1, d.before a0 Z = true) (a1 : Addr) (p1 : Int32) (vb : Addr) (vs : List Value) (q1 : Int32) (j : Nat) (cs : Int32) (h0 : Heap) (n0 : Nat) (Z0 : n0 ≤ h0.size) (E_a1 : Exa Z h0 a1 "java/lang/StringBuilder") (g_a1 : n0 ≤ a1) (F_value_a1 : Fld Z h0 a1 "java/lang/AbstractStringBuilder" "value" "[B" (.ref vb)) (F_coder_a1 : Fld Z h0 a1 "java/lang/AbstractStringBuilder" "coder" "B" (.int (0 : Int32))) (F_count_a1 : Fld Z h0 a1 "java/lang/AbstractStringBuilder" "count" "I" (.int q1)) (AV : oA .byte Z h0 vb vs) (g_vb : n0 ≤ vb) (nab : a1 ≠ vb) (hq : q1.toInt = (j : Int)) (hj : j < vs.length) (hcap : vs.length ≤ 16) (hp : ¬ 255 < p1) (S_c : Sta Z h0 "java/lang/String" "COMPACT_STRINGS" "Z" (.int cs)) (hcs : ¬ cs = 0) :
    oC l Z n0 (⟨"java/lang/AbstractStringBuilder", "append", "(C)Ljava/lang/AbstractStringBuilder;"⟩ : MethodName) jdk_68_method_31_code 2 (some (.object "java/lang/AbstractStringBuilder")) ({ frames := 1, cells := 0, slots := 0, locals := 16 } : Room) 0 0 #[(.ref a1), (.int p1)] h0 (fun v h => v = some (.ref a1) ∧ Keep h0 h [a1, vb] ∧ Fld Z h a1 "java/lang/AbstractStringBuilder" "value" "[B" (.ref vb) ∧ Fld Z h a1 "java/lang/AbstractStringBuilder" "coder" "B" (.int 0) ∧ Fld Z h a1 "java/lang/AbstractStringBuilder" "count" "I" (.int (q1 + 1)) ∧ oA .byte Z h vb (vs.set j (.int (nar .byte p1.toInt8.toInt32)))) := by
  refine oC.of (L := #[.val (.ref a1), .val (.int p1)]) pn22 Z0 (fun m => by first | (simp [entryFrame, mkF, argsToLocals, Value.category]; done) | rfl) ?_
  intro p e s m below meth c T H
  refine o_aloadN H rfl rfl d22_0 rfl ?_
  refine o_aloadN H rfl rfl d22_1 rfl ?_
  refine o_getF H (host := "") (Or.inl (w56 hw)) F_count_a1 d22_2 rfl ?_
  intro T1 H2
  refine o_iconst H2 (1 : Int32) rfl d22_5 rfl ?_
  refine o_iadd H2 d22_6 rfl ?_
  refine o_virtual H2 [(.int (q1 + (1 : Int32)))] [] (rm23 l Z a0 hw a1 (q1 + (1 : Int32)) vb vs h0 n0 H2.le F_value_a1 F_coder_a1 AV (own_cap hq hj hcap)) E_a1 (w126 hw) (o_decl (w127 hw) (w130 hw)) (o_nf (w129 hw)) (w129 hw) (w127 hw) (w16 hw) (w130 hw) (by decide) (lenOf pd23 rfl) rfl rfl (by decide) (Nat.le_of_ble_eq_true rfl) (by decide) (by decide) d22_7 rfl ?_
  intro T3 v3 h3 H3 q3
  obtain ⟨rfl, rfl⟩ := q3
  show oG p e below s n0 _ _ _ (T3.setTop (mkF m 10 #[.val (.ref a1), .val (.int p1)] []))
  refine o_aloadN H3 rfl rfl d22_10 rfl ?_
  refine o_virtual H3 [] [] (rm11 l Z a0 hw a1 cs h0 n0 H3.le F_coder_a1 S_c hcs) E_a1 (w131 hw) (w59 hw) (o_nf (w61 hw)) (w61 hw) (w60 hw) (w16 hw) (w62 hw) (by decide) (lenOf pd11 rfl) rfl rfl (by decide) (Nat.le_of_ble_eq_true rfl) (by decide) (by decide) d22_11 rfl ?_
  intro T4 v4 h4 H4 q4
  obtain ⟨rfl, rfl⟩ := q4
  show oG p e below s n0 _ _ _ (T4.setTop (mkF m 14 #[.val (.ref a1), .val (.int p1)] [(.int (1 : Int32))]))
  refine o_if_f H4 d22_14 (by decide) rfl ?_
  refine o_iloadN H4 rfl d22_17 rfl ?_
  refine o_static H4 [(.int p1)] [] (rm24 l Z a0 hw p1 h0 n0 H4.le hp) (w132 hw) (w133 hw) (w134 hw) (w135 hw) (by decide) (lenOf pd24 rfl) rfl rfl (by decide) (Nat.le_of_ble_eq_true rfl) (by decide) (by decide) d22_18 rfl ?_
  intro T5 v5 h5 H5 q5
  obtain ⟨rfl, rfl⟩ := q5
  show oG p e below s n0 _ _ _ (T5.setTop (mkF m 21 #[.val (.ref a1), .val (.int p1)] [(.int (1 : Int32))]))
  refine o_if_f H5 d22_21 (by decide) rfl ?_
  refine o_aloadN H5 rfl rfl d22_24 rfl ?_
  refine o_getF H5 (host := "") (Or.inl (w23 hw)) F_value_a1 d22_25 rfl ?_
  intro T6 H7
  refine o_aloadN H7 rfl rfl d22_28 rfl ?_
  refine o_dup H7 rfl d22_29 rfl ?_
  refine o_getF H7 (host := "") (Or.inl (w56 hw)) F_count_a1 d22_30 rfl ?_
  intro T8 H9
  refine o_dup_x1 H9 rfl rfl d22_33 rfl ?_
  refine o_iconst H9 (1 : Int32) rfl d22_34 rfl ?_
  refine o_iadd H9 d22_35 rfl ?_
  refine o_putF H9 (host := "") (Or.inl (w56 hw)) F_count_a1 E_a1 (Or.inl (w57 hw)) (w7 hw) (ty := .int) (by decide) rfl rfl g_a1 d22_36 rfl ?_
  intro T10 h10 H10 W10
  have k11 := (Keep.refl h0 [a1, vb]).wr W10 (Or.inl (by simp))
  have f12 := E_a1.wr W10
  have f13 := F_value_a1.other W10 (Or.inr (slot_ne (Or.inl (w24 hw)) (Or.inl (w57 hw)) (by decide) (t := (.array .byte)) (t' := .int) (by decide) (by decide)))
  have f14 := F_coder_a1.other W10 (Or.inr (slot_ne (Or.inl (w26 hw)) (Or.inl (w57 hw)) (by decide) (t := .byte) (t' := .int) (by decide) (by decide)))
  have f15 := F_count_a1.same W10
  have f16 := AV.other W10 (Ne.symm nab)
  refine o_iloadN H10 rfl d22_39 rfl ?_
  refine o_i2b H10 d22_40 rfl ?_
  refine o_bastore H10 j f16 hq hj g_vb d22_41 rfl ?_
  intro T17 h17 H17 W17 A17
  have k18 := k11.wr W17 (Or.inl (by simp))
  have f19 := f12.wr W17
  have f20 := f13.other W17 (Or.inl nab)
  have f21 := f14.other W17 (Or.inl nab)
  have f22 := f15.other W17 (Or.inl nab)
  refine o_goto H17 d22_42 (pt := 75) (by decide) (by decide) ?_
  refine o_aloadN H17 rfl rfl d22_75 rfl ?_
  exact o_areturn H17 rfl rfl rfl rfl d22_76 (by decide) (by decide) ⟨rfl, k18, f20, f21, f22, A17⟩
theorem d21_0 : decode jdk_67_method_14_code 0 = .ok (.aload_n 0, 1) := by decide +kernel
theorem d21_1 : decode jdk_67_method_14_code 1 = .ok (.iload_n 1, 1) := by decide +kernel
theorem d21_2 : decode jdk_67_method_14_code 2 = .ok (.invokespecial 50, 3) := by decide +kernel
theorem d21_5 : decode jdk_67_method_14_code 5 = .ok (.pop, 1) := by decide +kernel
theorem d21_6 : decode jdk_67_method_14_code 6 = .ok (.aload_n 0, 1) := by decide +kernel
theorem d21_7 : decode jdk_67_method_14_code 7 = .ok (.areturn, 1) := by decide +kernel
theorem pn21 : plainFor (⟨"java/lang/StringBuilder", "append", "(C)Ljava/lang/StringBuilder;"⟩ : MethodName) = true := plainFor_of_name (by first | (simp [plainName, overriddenIn]; done) | decide +kernel)
theorem pd21 : parseMethodDescriptor "(C)Ljava/lang/StringBuilder;" = some ⟨[.char], some (.object "java/lang/StringBuilder")⟩ := by decide +kernel
set_option maxRecDepth 65536 in
set_option maxHeartbeats 40000000 in
theorem rm21 (l : Launch) (Z : State) (a0 : Array Value) (hw : ∀ d ∈ tables_1, d.before a0 Z = true) (a1 : Addr) (p1 : Int32) (vb : Addr) (vs : List Value) (q1 : Int32) (j : Nat) (cs : Int32) (h0 : Heap) (n0 : Nat) (Z0 : n0 ≤ h0.size) (E_a1 : Exa Z h0 a1 "java/lang/StringBuilder") (g_a1 : n0 ≤ a1) (F_value_a1 : Fld Z h0 a1 "java/lang/AbstractStringBuilder" "value" "[B" (.ref vb)) (F_coder_a1 : Fld Z h0 a1 "java/lang/AbstractStringBuilder" "coder" "B" (.int (0 : Int32))) (F_count_a1 : Fld Z h0 a1 "java/lang/AbstractStringBuilder" "count" "I" (.int q1)) (AV : oA .byte Z h0 vb vs) (g_vb : n0 ≤ vb) (nab : a1 ≠ vb) (hq : q1.toInt = (j : Int)) (hj : j < vs.length) (hcap : vs.length ≤ 16) (hp : ¬ 255 < p1) (S_c : Sta Z h0 "java/lang/String" "COMPACT_STRINGS" "Z" (.int cs)) (hcs : ¬ cs = 0) :
    oC l Z n0 (⟨"java/lang/StringBuilder", "append", "(C)Ljava/lang/StringBuilder;"⟩ : MethodName) jdk_67_method_14_code 2 (some (.object "java/lang/StringBuilder")) ({ frames := 2, cells := 0, slots := 0, locals := 32 } : Room) 0 0 #[(.ref a1), (.int p1)] h0 (fun v h => v = some (.ref a1) ∧ Keep h0 h [a1, vb] ∧ Fld Z h a1 "java/lang/AbstractStringBuilder" "value" "[B" (.ref vb) ∧ Fld Z h a1 "java/lang/AbstractStringBuilder" "coder" "B" (.int 0) ∧ Fld Z h a1 "java/lang/AbstractStringBuilder" "count" "I" (.int (q1 + 1)) ∧ oA .byte Z h vb (vs.set j (.int (nar .byte p1.toInt8.toInt32)))) := by
  refine oC.of (L := #[.val (.ref a1), .val (.int p1)]) pn21 Z0 (fun m => by first | (simp [entryFrame, mkF, argsToLocals, Value.category]; done) | rfl) ?_
  intro p e s m below meth c T H
  refine o_aloadN H rfl rfl d21_0 rfl ?_
  refine o_iloadN H rfl d21_1 rfl ?_
  refine o_super H [(.int p1)] [] (rm22 l Z a0 hw a1 p1 vb vs q1 j cs h0 n0 H.le E_a1 g_a1 F_value_a1 F_coder_a1 F_count_a1 AV g_vb nab hq hj hcap hp S_c hcs) (Ins.self E_a1) (by decide) (w122 hw) (o_same (w123 hw) (w45 hw) rfl (by decide)) (w54 hw) (w123 hw) (w16 hw) (w125 hw) (by decide) (lenOf pd22 rfl) rfl rfl (by decide) (Nat.le_of_ble_eq_true rfl) (by decide) (by decide) d21_2 rfl ?_
  intro T1 v1 h1 H1 q1
  obtain ⟨rfl, K1, FV1, FC1, FN1, A1⟩ := q1
  have k2 := (Keep.refl h0 [a1, vb]).trans K1 (allS (Or.inl (by simp)) (allS (Or.inl (by simp)) all0))
  have f3 := E_a1.keep K1
  show oG p e below s n0 _ _ _ (T1.setTop (mkF m 5 #[.val (.ref a1), .val (.int p1)] [(.ref a1)]))
  refine o_pop H1 rfl d21_5 rfl ?_
  refine o_aloadN H1 rfl rfl d21_6 rfl ?_
  exact o_areturn H1 rfl rfl rfl rfl d21_7 (by decide) (by decide) ⟨rfl, k2, FV1, FC1, FN1, A1⟩
theorem d12_0 : decode jdk_65_method_132_code 0 = .ok (.iload_n 1, 1) := by decide +kernel
theorem d12_1 : decode jdk_65_method_132_code 1 = .ok (.ifCond .ne 9, 3) := by decide +kernel
theorem d12_4 : decode jdk_65_method_132_code 4 = .ok (.iload_n 2, 1) := by decide +kernel
theorem d12_5 : decode jdk_65_method_132_code 5 = .ok (.aload_n 0, 1) := by decide +kernel
theorem d12_6 : decode jdk_65_method_132_code 6 = .ok (.arraylength, 1) := by decide +kernel
theorem d12_7 : decode jdk_65_method_132_code 7 = .ok (.if_icmp .eq 10, 3) := by decide +kernel
theorem d12_17 : decode jdk_65_method_132_code 17 = .ok (.aload_n 0, 1) := by decide +kernel
theorem d12_18 : decode jdk_65_method_132_code 18 = .ok (.invokevirtual 310, 3) := by decide +kernel
theorem d12_21 : decode jdk_65_method_132_code 21 = .ok (.checkcast 311, 3) := by decide +kernel
theorem d12_24 : decode jdk_65_method_132_code 24 = .ok (.areturn, 1) := by decide +kernel
theorem pn12 : plainFor (⟨"java/util/Arrays", "copyOfRange", "([BII)[B"⟩ : MethodName) = true := plainFor_of_name (by first | (simp [plainName, overriddenIn]; done) | decide +kernel)
theorem pd12 : parseMethodDescriptor "([BII)[B" = some ⟨[(.array .byte), .int, .int], some (.array .byte)⟩ := by decide +kernel
set_option maxRecDepth 65536 in
set_option maxHeartbeats 40000000 in
theorem rm12 (l : Launch) (Z : State) (a0 : Array Value) (hw : ∀ d ∈ tables_1, d.before a0 Z = true) (a1 : Addr) (p2 : Int32) (vs : List Value) (h0 : Heap) (n0 : Nat) (Z0 : n0 ≤ h0.size) (AV : oA .byte Z h0 a1 vs) (EB : Exa Z h0 a1 "[B") (OF : oFit .byte vs) (hlen : p2 = vs.length.toInt32) (hcap : vs.length ≤ 16) :
    oC l Z n0 (⟨"java/util/Arrays", "copyOfRange", "([BII)[B"⟩ : MethodName) jdk_65_method_132_code 3 (some (.array .byte)) ({ frames := 1, cells := 1, slots := 16, locals := 14 } : Room) 1 16 #[(.ref a1), (.int (0 : Int32)), (.int p2)] h0 (fun v h => ∃ r, v = some (.ref r) ∧ Keep h0 h [] ∧ oA .byte Z h r vs ∧ h0.size ≤ r) := by
  refine oC.of (L := #[.val (.ref a1), .val (.int (0 : Int32)), .val (.int p2)]) pn12 Z0 (fun m => by first | (simp [entryFrame, mkF, argsToLocals, Value.category]; done) | rfl) ?_
  intro p e s m below meth c T H
  refine o_iloadN H rfl d12_0 rfl ?_
  refine o_if_f H d12_1 (by decide) rfl ?_
  refine o_iloadN H rfl d12_4 rfl ?_
  refine o_aloadN H rfl rfl d12_5 rfl ?_
  refine o_arraylength H (vs.length.toInt32) AV rfl d12_6 rfl ?_
  refine o_icmp_t H d12_7 (XT.ii_eq_t hlen) (pt := 17) (by decide) (by decide) ?_
  refine o_aloadN H rfl rfl d12_17 rfl ?_
  refine o_clone H 16 (w69 hw) (w70 hw) (w74 hw) (w72 hw) (w73 hw) (w75 hw) AV EB OF hcap d12_18 rfl rfl (by decide) (Nat.le_of_ble_eq_true rfl) (by decide) (by decide) ?_
  intro T1 h1 b1 g1 H1 E1 A1 X1
  have ne1_a1 : a1 ≠ b1 := by rw [g1]; exact Nat.ne_of_lt (AV).lt
  have z1 : n0 ≤ b1 := by rw [g1]; exact H.le
  have y1 : h0.size ≤ b1 := by rw [g1]; exact (Keep.refl h0 []).1
  have k2 := (Keep.refl h0 []).ext E1
  have f3 := AV.ext E1
  refine o_castY H1 (w76 hw) (Ins.self X1) d12_21 rfl ?_
  intro T4 H5
  exact o_areturn H5 rfl rfl rfl rfl d12_24 (by decide) (by decide) ⟨_, rfl, k2, A1, y1⟩
theorem d7_0 : decode jdk_42_method_150_code 0 = .ok (.aload_n 0, 1) := by decide +kernel
theorem d7_1 : decode jdk_42_method_150_code 1 = .ok (.invokespecial 1, 3) := by decide +kernel
theorem d7_4 : decode jdk_42_method_150_code 4 = .ok (.aload_n 1, 1) := by decide +kernel
theorem d7_5 : decode jdk_42_method_150_code 5 = .ok (.invokevirtual 552, 3) := by decide +kernel
theorem d7_8 : decode jdk_42_method_150_code 8 = .ok (.astore_n 3, 1) := by decide +kernel
theorem d7_9 : decode jdk_42_method_150_code 9 = .ok (.aload_n 1, 1) := by decide +kernel
theorem d7_10 : decode jdk_42_method_150_code 10 = .ok (.invokevirtual 549, 3) := by decide +kernel
theorem d7_13 : decode jdk_42_method_150_code 13 = .ok (.istore 4, 2) := by decide +kernel
theorem d7_15 : decode jdk_42_method_150_code 15 = .ok (.aload_n 1, 1) := by decide +kernel
theorem d7_16 : decode jdk_42_method_150_code 16 = .ok (.invokevirtual 1047, 3) := by decide +kernel
theorem d7_19 : decode jdk_42_method_150_code 19 = .ok (.ifCond .eq 22, 3) := by decide +kernel
theorem d7_22 : decode jdk_42_method_150_code 22 = .ok (.aload_n 0, 1) := by decide +kernel
theorem d7_23 : decode jdk_42_method_150_code 23 = .ok (.iconst 0, 1) := by decide +kernel
theorem d7_24 : decode jdk_42_method_150_code 24 = .ok (.putfield 15, 3) := by decide +kernel
theorem d7_27 : decode jdk_42_method_150_code 27 = .ok (.aload_n 0, 1) := by decide +kernel
theorem d7_28 : decode jdk_42_method_150_code 28 = .ok (.aload_n 3, 1) := by decide +kernel
theorem d7_29 : decode jdk_42_method_150_code 29 = .ok (.iconst 0, 1) := by decide +kernel
theorem d7_30 : decode jdk_42_method_150_code 30 = .ok (.iload 4, 2) := by decide +kernel
theorem d7_32 : decode jdk_42_method_150_code 32 = .ok (.invokestatic 54, 3) := by decide +kernel
theorem d7_35 : decode jdk_42_method_150_code 35 = .ok (.putfield 9, 3) := by decide +kernel
theorem d7_38 : decode jdk_42_method_150_code 38 = .ok (.goto 59, 3) := by decide +kernel
theorem d7_97 : decode jdk_42_method_150_code 97 = .ok (.return_, 1) := by decide +kernel
theorem pn7 : plainFor (⟨"java/lang/String", "<init>", "(Ljava/lang/AbstractStringBuilder;Ljava/lang/Void;)V"⟩ : MethodName) = true := plainFor_of_name (by first | (simp [plainName, overriddenIn]; done) | decide +kernel)
theorem pd7 : parseMethodDescriptor "(Ljava/lang/AbstractStringBuilder;Ljava/lang/Void;)V" = some ⟨[(.object "java/lang/AbstractStringBuilder"), (.object "java/lang/Void")], none⟩ := by decide +kernel
set_option maxRecDepth 65536 in
set_option maxHeartbeats 40000000 in
theorem rm7 (l : Launch) (Z : State) (a0 : Array Value) (hw : ∀ d ∈ tables_1, d.before a0 Z = true) (a1 : Addr) (p1 : Addr) (vb : Addr) (vs : List Value) (q1 : Int32) (cs : Int32) (h0 : Heap) (n0 : Nat) (Z0 : n0 ≤ h0.size) (E_a1 : Exa Z h0 a1 "java/lang/String") (g_a1 : n0 ≤ a1) (F_value_a1 : Fld Z h0 a1 "java/lang/String" "value" "[B" .null) (F_coder_a1 : Fld Z h0 a1 "java/lang/String" "coder" "B" (.int (0 : Int32))) (E_p1 : Exa Z h0 p1 "java/lang/StringBuilder") (F_value_p1 : Fld Z h0 p1 "java/lang/AbstractStringBuilder" "value" "[B" (.ref vb)) (F_coder_p1 : Fld Z h0 p1 "java/lang/AbstractStringBuilder" "coder" "B" (.int (0 : Int32))) (F_count_p1 : Fld Z h0 p1 "java/lang/AbstractStringBuilder" "count" "I" (.int q1)) (AV : oA .byte Z h0 vb vs) (EB : Exa Z h0 vb "[B") (nvb : vb ≠ a1) (OF : oFit .byte vs) (hlen : q1 = vs.length.toInt32) (hcap : vs.length ≤ 16) (S_c : Sta Z h0 "java/lang/String" "COMPACT_STRINGS" "Z" (.int cs)) (hcs : ¬ cs = 0) :
    oC l Z n0 (⟨"java/lang/String", "<init>", "(Ljava/lang/AbstractStringBuilder;Ljava/lang/Void;)V"⟩ : MethodName) jdk_42_method_150_code 5 none ({ frames := 2, cells := 1, slots := 16, locals := 30 } : Room) 1 16 #[(.ref a1), (.ref p1), .null] h0 (fun v h => v = none ∧ ∃ r, Keep h0 h [a1] ∧ Fld Z h a1 "java/lang/String" "coder" "B" (.int 0) ∧ Fld Z h a1 "java/lang/String" "value" "[B" (.ref r) ∧ oA .byte Z h r vs) := by
  refine oC.of (L := #[.val (.ref a1), .val (.ref p1), .val .null, .unset, .unset]) pn7 Z0 (fun m => by first | (simp [entryFrame, mkF, argsToLocals, Value.category]; done) | rfl) ?_
  intro p e s m below meth c T H
  refine o_aloadN H rfl rfl d7_0 rfl ?_
  refine o_initO H (w41 hw) (w19 hw) (w20 hw) d7_1 rfl rfl (by decide) (Nat.le_of_ble_eq_true rfl) ?_
  intro T1 H2
  refine o_aloadN H2 rfl rfl d7_4 rfl ?_
  refine o_virtual H2 [] [] (rm8 l Z a0 hw p1 vb h0 n0 H2.le F_value_p1) E_p1 (w42 hw) (w43 hw) (o_nf (w45 hw)) (w45 hw) (w44 hw) (w16 hw) (w46 hw) (by decide) (lenOf pd8 rfl) rfl rfl (by decide) (Nat.le_of_ble_eq_true rfl) (by decide) (by decide) d7_5 rfl ?_
  intro T3 v3 h3 H3 q3
  obtain ⟨rfl, rfl⟩ := q3
  show oG p e below s n0 _ _ _ (T3.setTop (mkF m 8 #[.val (.ref a1), .val (.ref p1), .val .null, .unset, .unset] [(.ref vb)]))
  refine o_astoreN H3 (L' := #[.val (.ref a1), .val (.ref p1), .val .null, .val (.ref vb), .unset]) rfl rfl d7_8 rfl ?_
  refine o_aloadN H3 rfl rfl d7_9 rfl ?_
  refine o_virtual H3 [] [] (rm9 l Z a0 hw p1 q1 h0 n0 H3.le E_p1 F_count_p1) E_p1 (w47 hw) (w48 hw) (o_nf2 (yc := (⟨"java/lang/AbstractStringBuilder", "length", "()I"⟩ : MethodName)) (w45 hw) rfl) (w50 hw) (w51 hw) (w8 hw) (w52 hw) (by decide) (lenOf pd9 rfl) rfl rfl (by decide) (Nat.le_of_ble_eq_true rfl) (by decide) (by decide) d7_10 rfl ?_
  intro T4 v4 h4 H4 q4
  obtain ⟨rfl, rfl⟩ := q4
  show oG p e below s n0 _ _ _ (T4.setTop (mkF m 13 #[.val (.ref a1), .val (.ref p1), .val .null, .val (.ref vb), .unset] [(.int q1)]))
  refine o_istore H4 (L' := #[.val (.ref a1), .val (.ref p1), .val .null, .val (.ref vb), .val (.int q1)]) rfl d7_13 rfl ?_
  refine o_aloadN H4 rfl rfl d7_15 rfl ?_
  refine o_virtual H4 [] [] (rm11 l Z a0 hw p1 cs h0 n0 H4.le F_coder_p1 S_c hcs) E_p1 (w58 hw) (w59 hw) (o_nf (w61 hw)) (w61 hw) (w60 hw) (w16 hw) (w62 hw) (by decide) (lenOf pd11 rfl) rfl rfl (by decide) (Nat.le_of_ble_eq_true rfl) (by decide) (by decide) d7_16 rfl ?_
  intro T5 v5 h5 H5 q5
  obtain ⟨rfl, rfl⟩ := q5
  show oG p e below s n0 _ _ _ (T5.setTop (mkF m 19 #[.val (.ref a1), .val (.ref p1), .val .null, .val (.ref vb), .val (.int q1)] [(.int (1 : Int32))]))
  refine o_if_f H5 d7_19 (by decide) rfl ?_
  refine o_aloadN H5 rfl rfl d7_22 rfl ?_
  refine o_iconst H5 (0 : Int32) rfl d7_23 rfl ?_
  refine o_putFN H5 (w63 hw) F_coder_a1 E_a1 (Or.inr ⟨(w64 hw), rfl, rfl⟩) (w33 hw) (ty := .byte) (v' := (.int (nar .byte (0 : Int32)))) (by decide) rfl (fits_nar_byte _) g_a1 d7_24 rfl ?_
  intro T6 h6 H6 W6
  have k7 := (Keep.refl h0 [a1]).wr W6 (Or.inl (by simp))
  have f8 := E_a1.wr W6
  have f9 := F_value_a1.other W6 (Or.inr (slot_ne (Or.inr (w79 hw)) (Or.inr (w64 hw)) (by decide) (t := (.array .byte)) (t' := .byte) (by decide) (by decide)))
  have f10 := F_coder_a1.same W6
  have f11 := AV.other W6 nvb
  have f12 := EB.wr W6
  refine o_aloadN H6 rfl rfl d7_27 rfl ?_
  refine o_aloadN H6 rfl rfl d7_28 rfl ?_
  refine o_iconst H6 (0 : Int32) rfl d7_29 rfl ?_
  refine o_iload H6 rfl d7_30 rfl ?_
  refine o_static H6 [(.ref vb), (.int (0 : Int32)), (.int q1)] [(.ref a1)] (rm12 l Z a0 hw vb q1 vs h6 n0 H6.le f11 f12 OF hlen hcap) (w65 hw) (w66 hw) (w67 hw) (w68 hw) (by decide) (lenOf pd12 rfl) rfl rfl (by decide) (Nat.le_of_ble_eq_true rfl) (by decide) (by decide) d7_32 rfl ?_
  intro T13 v13 h13 H13 q13
  obtain ⟨r13, rfl, K13, A13, Z13⟩ := q13
  have nr13 : r13 ≠ a1 := Nat.ne_of_gt (Nat.lt_of_lt_of_le (f8).lt Z13)
  have k14 := k7.trans K13 all0
  have f15 := f8.keep K13
  have f16 := f9.keep K13 nin0
  have f17 := f10.keep K13 nin0
  have f18 := f11.keep K13 nin0
  have f19 := f12.keep K13
  show oG p e below s n0 _ _ _ (T13.setTop (mkF m 35 #[.val (.ref a1), .val (.ref p1), .val .null, .val (.ref vb), .val (.int q1)] [(.ref r13), (.ref a1)]))
  refine o_putF H13 (host := "") (Or.inl (w78 hw)) f16 f15 (Or.inr ⟨(w79 hw), rfl, rfl⟩) (w33 hw) (ty := (.array .byte)) (by decide) rfl rfl g_a1 d7_35 rfl ?_
  intro T20 h20 H20 W20
  have k21 := k14.wr W20 (Or.inl (by simp))
  have f22 := f15.wr W20
  have f23 := f16.same W20
  have f24 := f17.other W20 (Or.inr (slot_ne (Or.inr (w64 hw)) (Or.inr (w79 hw)) (by decide) (t := .byte) (t' := (.array .byte)) (by decide) (by decide)))
  have f25 := f18.other W20 nvb
  have f26 := f19.wr W20
  have f27 := A13.other W20 nr13
  refine o_goto H20 d7_38 (pt := 97) (by decide) (by decide) ?_
  exact o_return H20 rfl d7_97 (by decide) (by decide) ⟨rfl, _, k21, f24, f23, f27⟩
theorem d6_0 : decode jdk_42_method_53_code 0 = .ok (.aload_n 0, 1) := by decide +kernel
theorem d6_1 : decode jdk_42_method_53_code 1 = .ok (.aload_n 1, 1) := by decide +kernel
theorem d6_2 : decode jdk_42_method_53_code 2 = .ok (.aconst_null, 1) := by decide +kernel
theorem d6_3 : decode jdk_42_method_53_code 3 = .ok (.invokespecial 489, 3) := by decide +kernel
theorem d6_6 : decode jdk_42_method_53_code 6 = .ok (.return_, 1) := by decide +kernel
theorem pn6 : plainFor (⟨"java/lang/String", "<init>", "(Ljava/lang/StringBuilder;)V"⟩ : MethodName) = true := plainFor_of_name (by first | (simp [plainName, overriddenIn]; done) | decide +kernel)
theorem pd6 : parseMethodDescriptor "(Ljava/lang/StringBuilder;)V" = some ⟨[(.object "java/lang/StringBuilder")], none⟩ := by decide +kernel
set_option maxRecDepth 65536 in
set_option maxHeartbeats 40000000 in
theorem rm6 (l : Launch) (Z : State) (a0 : Array Value) (hw : ∀ d ∈ tables_1, d.before a0 Z = true) (a1 : Addr) (p1 : Addr) (vb : Addr) (vs : List Value) (q1 : Int32) (cs : Int32) (h0 : Heap) (n0 : Nat) (Z0 : n0 ≤ h0.size) (E_a1 : Exa Z h0 a1 "java/lang/String") (g_a1 : n0 ≤ a1) (F_value_a1 : Fld Z h0 a1 "java/lang/String" "value" "[B" .null) (F_coder_a1 : Fld Z h0 a1 "java/lang/String" "coder" "B" (.int (0 : Int32))) (E_p1 : Exa Z h0 p1 "java/lang/StringBuilder") (F_value_p1 : Fld Z h0 p1 "java/lang/AbstractStringBuilder" "value" "[B" (.ref vb)) (F_coder_p1 : Fld Z h0 p1 "java/lang/AbstractStringBuilder" "coder" "B" (.int (0 : Int32))) (F_count_p1 : Fld Z h0 p1 "java/lang/AbstractStringBuilder" "count" "I" (.int q1)) (AV : oA .byte Z h0 vb vs) (EB : Exa Z h0 vb "[B") (nvb : vb ≠ a1) (OF : oFit .byte vs) (hlen : q1 = vs.length.toInt32) (hcap : vs.length ≤ 16) (S_c : Sta Z h0 "java/lang/String" "COMPACT_STRINGS" "Z" (.int cs)) (hcs : ¬ cs = 0) :
    oC l Z n0 (⟨"java/lang/String", "<init>", "(Ljava/lang/StringBuilder;)V"⟩ : MethodName) jdk_42_method_53_code 2 none ({ frames := 3, cells := 1, slots := 16, locals := 46 } : Room) 1 16 #[(.ref a1), (.ref p1)] h0 (fun v h => v = none ∧ ∃ r, Keep h0 h [a1] ∧ Fld Z h a1 "java/lang/String" "coder" "B" (.int 0) ∧ Fld Z h a1 "java/lang/String" "value" "[B" (.ref r) ∧ oA .byte Z h r vs) := by
  refine oC.of (L := #[.val (.ref a1), .val (.ref p1)]) pn6 Z0 (fun m => by first | (simp [entryFrame, mkF, argsToLocals, Value.category]; done) | rfl) ?_
  intro p e s m below meth c T H
  refine o_aloadN H rfl rfl d6_0 rfl ?_
  refine o_aloadN H rfl rfl d6_1 rfl ?_
  refine o_aconst_null H d6_2 rfl ?_
  refine o_special H [(.ref p1), .null] [] (rm7 l Z a0 hw a1 p1 vb vs q1 cs h0 n0 H.le E_a1 g_a1 F_value_a1 F_coder_a1 E_p1 F_value_p1 F_coder_p1 F_count_p1 AV EB nvb OF hlen hcap S_c hcs) rfl (w38 hw) (w39 hw) (w22 hw) (w40 hw) (by decide) (lenOf pd7 rfl) rfl rfl (by decide) (Nat.le_of_ble_eq_true rfl) (by decide) (by decide) d6_3 rfl ?_
  intro T1 v1 h1 H1 q1
  obtain ⟨rfl, r1, K1, FC1, FV1, A1⟩ := q1
  have k2 := (Keep.refl h0 [a1]).trans K1 (allS (Or.inl (by simp)) all0)
  have f3 := E_a1.keep K1
  show oG p e below s n0 _ _ _ (T1.setTop (mkF m 6 #[.val (.ref a1), .val (.ref p1)] []))
  exact o_return H1 rfl d6_6 (by decide) (by decide) ⟨rfl, _, k2, FC1, FV1, A1⟩
theorem d5_0 : decode jdk_67_method_42_code 0 = .ok (.new 18, 3) := by decide +kernel
theorem d5_3 : decode jdk_67_method_42_code 3 = .ok (.dup, 1) := by decide +kernel
theorem d5_4 : decode jdk_67_method_42_code 4 = .ok (.aload_n 0, 1) := by decide +kernel
theorem d5_5 : decode jdk_67_method_42_code 5 = .ok (.invokespecial 137, 3) := by decide +kernel
theorem d5_8 : decode jdk_67_method_42_code 8 = .ok (.areturn, 1) := by decide +kernel
theorem pn5 : plainFor (⟨"java/lang/StringBuilder", "toString", "()Ljava/lang/String;"⟩ : MethodName) = true := plainFor_of_name (by first | (simp [plainName, overriddenIn]; done) | decide +kernel)
theorem pd5 : parseMethodDescriptor "()Ljava/lang/String;" = some ⟨[], some (.object "java/lang/String")⟩ := by decide +kernel
set_option maxRecDepth 65536 in
set_option maxHeartbeats 40000000 in
theorem rm5 (l : Launch) (Z : State) (a0 : Array Value) (hw : ∀ d ∈ tables_1, d.before a0 Z = true) (a1 : Addr) (vb : Addr) (vs : List Value) (q1 : Int32) (cs : Int32) (h0 : Heap) (n0 : Nat) (Z0 : n0 ≤ h0.size) (E_a1 : Exa Z h0 a1 "java/lang/StringBuilder") (F_value_a1 : Fld Z h0 a1 "java/lang/AbstractStringBuilder" "value" "[B" (.ref vb)) (F_coder_a1 : Fld Z h0 a1 "java/lang/AbstractStringBuilder" "coder" "B" (.int (0 : Int32))) (F_count_a1 : Fld Z h0 a1 "java/lang/AbstractStringBuilder" "count" "I" (.int q1)) (AV : oA .byte Z h0 vb vs) (EB : Exa Z h0 vb "[B") (OF : oFit .byte vs) (hlen : q1 = vs.length.toInt32) (hcap : vs.length ≤ 16) (S_c : Sta Z h0 "java/lang/String" "COMPACT_STRINGS" "Z" (.int cs)) (hcs : ¬ cs = 0) :
    oC l Z n0 (⟨"java/lang/StringBuilder", "toString", "()Ljava/lang/String;"⟩ : MethodName) jdk_67_method_42_code 1 (some (.object "java/lang/String")) ({ frames := 4, cells := 2, slots := 20, locals := 62 } : Room) 2 20 #[(.ref a1)] h0 (fun v h => ∃ r b, v = some (.ref r) ∧ Keep h0 h [] ∧ Exa Z h r "java/lang/String" ∧ Fld Z h r "java/lang/String" "coder" "B" (.int 0) ∧ Fld Z h r "java/lang/String" "value" "[B" (.ref b) ∧ oA .byte Z h b vs) := by
  refine oC.of (L := #[.val (.ref a1)]) pn5 Z0 (fun m => by first | (simp [entryFrame, mkF, argsToLocals, Value.category]; done) | rfl) ?_
  intro p e s m below meth c T H
  refine o_new H (w32 hw) (w33 hw) (w22 hw) d5_0 rfl (by decide) (by decide) ?_
  intro T1 h1 b1 g1 H1 E1 A1 D1
  have ne1_a1 : a1 ≠ b1 := by rw [g1]; exact Nat.ne_of_lt (E_a1).lt
  have ne1_vb : vb ≠ b1 := by rw [g1]; exact Nat.ne_of_lt (AV).lt
  have z1 : n0 ≤ b1 := by rw [g1]; exact H.le
  have y1 : h0.size ≤ b1 := by rw [g1]; exact (Keep.refl h0 []).1
  have k2 := (Keep.refl h0 []).ext E1
  have f3 := E_a1.ext E1
  have f4 := F_value_a1.ext E1
  have f5 := F_coder_a1.ext E1
  have f6 := F_count_a1.ext E1
  have f7 := AV.ext E1
  have f8 := EB.ext E1
  have f9 : Fld Z h1 b1 "java/lang/String" "coder" "B" (.int (0 : Int32)) := D1 (Or.inr (w64 hw)) (ty := .byte) (by decide)
  have f10 : Fld Z h1 b1 "java/lang/String" "value" "[B" .null := D1 (Or.inr (w79 hw)) (ty := (.array .byte)) (by decide)
  refine o_dup H1 rfl d5_3 rfl ?_
  refine o_aloadN H1 rfl rfl d5_4 rfl ?_
  refine o_special H1 [(.ref a1)] [(.ref b1)] (rm6 l Z a0 hw b1 a1 vb vs q1 cs h1 n0 H1.le A1 z1 f10 f9 f3 f4 f5 f6 f7 f8 ne1_vb OF hlen hcap (S_c.ext (o_kext k2)) hcs) rfl (w34 hw) (w35 hw) (w22 hw) (w37 hw) (by decide) (lenOf pd6 rfl) rfl rfl (by decide) (Nat.le_of_ble_eq_true rfl) (by decide) (by decide) d5_5 rfl ?_
  intro T11 v11 h11 H11 q11
  obtain ⟨rfl, r11, K11, FC11, FV11, A11⟩ := q11
  have k12 := k2.trans K11 (allS (Or.inr y1) all0)
  have f13 := A1.keep K11
  show oG p e below s n0 _ _ _ (T11.setTop (mkF m 8 #[.val (.ref a1)] [(.ref b1)]))
  exact o_areturn H11 rfl rfl rfl rfl d5_8 (by decide) (by decide) ⟨_, _, rfl, k12, f13, FC11, FV11, A11⟩
theorem d3_0 : decode jdk_68_method_2_code 0 = .ok (.aload_n 0, 1) := by decide +kernel
theorem d3_1 : decode jdk_68_method_2_code 1 = .ok (.invokespecial 3, 3) := by decide +kernel
theorem d3_4 : decode jdk_68_method_2_code 4 = .ok (.getstatic 18, 3) := by decide +kernel
theorem d3_7 : decode jdk_68_method_2_code 7 = .ok (.ifCond .eq 18, 3) := by decide +kernel
theorem d3_10 : decode jdk_68_method_2_code 10 = .ok (.aload_n 0, 1) := by decide +kernel
theorem d3_11 : decode jdk_68_method_2_code 11 = .ok (.iload_n 1, 1) := by decide +kernel
theorem d3_12 : decode jdk_68_method_2_code 12 = .ok (.newarray .byte, 2) := by decide +kernel
theorem d3_14 : decode jdk_68_method_2_code 14 = .ok (.putfield 15, 3) := by decide +kernel
theorem d3_17 : decode jdk_68_method_2_code 17 = .ok (.aload_n 0, 1) := by decide +kernel
theorem d3_18 : decode jdk_68_method_2_code 18 = .ok (.iconst 0, 1) := by decide +kernel
theorem d3_19 : decode jdk_68_method_2_code 19 = .ok (.putfield 22, 3) := by decide +kernel
theorem d3_22 : decode jdk_68_method_2_code 22 = .ok (.goto 16, 3) := by decide +kernel
theorem d3_38 : decode jdk_68_method_2_code 38 = .ok (.return_, 1) := by decide +kernel
theorem pn3 : plainFor (⟨"java/lang/AbstractStringBuilder", "<init>", "(I)V"⟩ : MethodName) = true := plainFor_of_name (by first | (simp [plainName, overriddenIn]; done) | decide +kernel)
theorem pd3 : parseMethodDescriptor "(I)V" = some ⟨[.int], none⟩ := by decide +kernel
set_option maxRecDepth 65536 in
set_option maxHeartbeats 40000000 in
theorem rm3 (l : Launch) (Z : State) (a0 : Array Value) (hw : ∀ d ∈ tables_1, d.before a0 Z = true) (a1 : Addr) (p1 : Int32) (n : Nat) (cs : Int32) (h0 : Heap) (n0 : Nat) (Z0 : n0 ≤ h0.size) (E_a1 : Exa Z h0 a1 "java/lang/StringBuilder") (g_a1 : n0 ≤ a1) (F_value_a1 : Fld Z h0 a1 "java/lang/AbstractStringBuilder" "value" "[B" .null) (F_coder_a1 : Fld Z h0 a1 "java/lang/AbstractStringBuilder" "coder" "B" (.int (0 : Int32))) (F_count_a1 : Fld Z h0 a1 "java/lang/AbstractStringBuilder" "count" "I" (.int (0 : Int32))) (hp1 : p1.toInt = (n : Int)) (hn16 : n ≤ 16) (S_c : Sta Z h0 "java/lang/String" "COMPACT_STRINGS" "Z" (.int cs)) (hcs : ¬ cs = 0) :
    oC l Z n0 (⟨"java/lang/AbstractStringBuilder", "<init>", "(I)V"⟩ : MethodName) jdk_68_method_2_code 2 none ({ frames := 1, cells := 1, slots := 16, locals := 12 } : Room) 1 16 #[(.ref a1), (.int p1)] h0 (fun v h => v = none ∧ ∃ b, Keep h0 h [a1] ∧ Fld Z h a1 "java/lang/AbstractStringBuilder" "value" "[B" (.ref b) ∧ Fld Z h a1 "java/lang/AbstractStringBuilder" "coder" "B" (.int 0) ∧ Fld Z h a1 "java/lang/AbstractStringBuilder" "count" "I" (.int 0) ∧ oA .byte Z h b (List.replicate n (.int 0)) ∧ Exa Z h b "[B" ∧ n0 ≤ b ∧ h0.size ≤ b ∧ a1 ≠ b) := by
  refine oC.of (L := #[.val (.ref a1), .val (.int p1)]) pn3 Z0 (fun m => by first | (simp [entryFrame, mkF, argsToLocals, Value.category]; done) | rfl) ?_
  intro p e s m below meth c T H
  refine o_aloadN H rfl rfl d3_0 rfl ?_
  refine o_initO H (w18 hw) (w19 hw) (w20 hw) d3_1 rfl rfl (by decide) (Nat.le_of_ble_eq_true rfl) ?_
  intro T1 H2
  refine o_getS H2 (host := "") (Or.inl (w21 hw)) S_c d3_4 rfl ?_
  intro T3 H4
  refine o_if_f H4 d3_7 (XT.i0_eq_f hcs) rfl ?_
  refine o_aloadN H4 rfl rfl d3_10 rfl ?_
  refine o_iloadN H4 rfl d3_11 rfl ?_
  refine o_newarrE (aty := .byte) H4 16 n (w1 hw) hp1 hn16 (by decide) d3_12 rfl (by decide) (by decide) (ad := "[B") (by decide) ?_
  intro T5 h5 b5 g5 H5 E5 A5 X5
  have ne5_a1 : a1 ≠ b5 := by rw [g5]; exact Nat.ne_of_lt (E_a1).lt
  have z5 : n0 ≤ b5 := by rw [g5]; exact H4.le
  have y5 : h0.size ≤ b5 := by rw [g5]; exact (Keep.refl h0 [a1]).1
  have k6 := (Keep.refl h0 [a1]).ext E5
  have f7 := E_a1.ext E5
  have f8 := F_value_a1.ext E5
  have f9 := F_coder_a1.ext E5
  have f10 := F_count_a1.ext E5
  have AA5 : oA .byte Z h5 b5 (List.replicate n (.int 0)) := A5
  refine o_putF H5 (host := "") (Or.inl (w23 hw)) f8 f7 (Or.inl (w24 hw)) (w7 hw) (ty := (.array .byte)) (by decide) rfl rfl g_a1 d3_14 rfl ?_
  intro T11 h11 H11 W11
  have k12 := k6.wr W11 (Or.inl (by simp))
  have f13 := f7.wr W11
  have f14 := f8.same W11
  have f15 := f9.other W11 (Or.inr (slot_ne (Or.inl (w26 hw)) (Or.inl (w24 hw)) (by decide) (t := .byte) (t' := (.array .byte)) (by decide) (by decide)))
  have f16 := f10.other W11 (Or.inr (slot_ne (Or.inl (w57 hw)) (Or.inl (w24 hw)) (by decide) (t := .int) (t' := (.array .byte)) (by decide) (by decide)))
  have f17 := AA5.other W11 (Ne.symm ne5_a1)
  have f18 := X5.wr W11
  refine o_aloadN H11 rfl rfl d3_17 rfl ?_
  refine o_iconst H11 (0 : Int32) rfl d3_18 rfl ?_
  refine o_putFN H11 (w25 hw) f15 f13 (Or.inl (w26 hw)) (w7 hw) (ty := .byte) (v' := (.int (nar .byte (0 : Int32)))) (by decide) rfl (fits_nar_byte _) g_a1 d3_19 rfl ?_
  intro T19 h19 H19 W19
  have k20 := k12.wr W19 (Or.inl (by simp))
  have f21 := f13.wr W19
  have f22 := f14.other W19 (Or.inr (slot_ne (Or.inl (w24 hw)) (Or.inl (w26 hw)) (by decide) (t := (.array .byte)) (t' := .byte) (by decide) (by decide)))
  have f23 := f15.same W19
  have f24 := f16.other W19 (Or.inr (slot_ne (Or.inl (w57 hw)) (Or.inl (w26 hw)) (by decide) (t := .int) (t' := .byte) (by decide) (by decide)))
  have f25 := f17.other W19 (Ne.symm ne5_a1)
  have f26 := f18.wr W19
  refine o_goto H19 d3_22 (pt := 38) (by decide) (by decide) ?_
  exact o_return H19 rfl d3_38 (by decide) (by decide) ⟨rfl, _, k20, f22, f23, f24, f25, f26, z5, y5, ne5_a1⟩
theorem d2_0 : decode jdk_67_method_2_code 0 = .ok (.aload_n 0, 1) := by decide +kernel
theorem d2_1 : decode jdk_67_method_2_code 1 = .ok (.iload_n 1, 1) := by decide +kernel
theorem d2_2 : decode jdk_67_method_2_code 2 = .ok (.invokespecial 1, 3) := by decide +kernel
theorem d2_5 : decode jdk_67_method_2_code 5 = .ok (.return_, 1) := by decide +kernel
theorem pn2 : plainFor (⟨"java/lang/StringBuilder", "<init>", "(I)V"⟩ : MethodName) = true := plainFor_of_name (by first | (simp [plainName, overriddenIn]; done) | decide +kernel)
theorem pd2 : parseMethodDescriptor "(I)V" = some ⟨[.int], none⟩ := by decide +kernel
set_option maxRecDepth 65536 in
set_option maxHeartbeats 40000000 in
theorem rm2 (l : Launch) (Z : State) (a0 : Array Value) (hw : ∀ d ∈ tables_1, d.before a0 Z = true) (a1 : Addr) (p1 : Int32) (n : Nat) (cs : Int32) (h0 : Heap) (n0 : Nat) (Z0 : n0 ≤ h0.size) (E_a1 : Exa Z h0 a1 "java/lang/StringBuilder") (g_a1 : n0 ≤ a1) (F_value_a1 : Fld Z h0 a1 "java/lang/AbstractStringBuilder" "value" "[B" .null) (F_coder_a1 : Fld Z h0 a1 "java/lang/AbstractStringBuilder" "coder" "B" (.int (0 : Int32))) (F_count_a1 : Fld Z h0 a1 "java/lang/AbstractStringBuilder" "count" "I" (.int (0 : Int32))) (hp1 : p1.toInt = (n : Int)) (hn16 : n ≤ 16) (S_c : Sta Z h0 "java/lang/String" "COMPACT_STRINGS" "Z" (.int cs)) (hcs : ¬ cs = 0) :
    oC l Z n0 (⟨"java/lang/StringBuilder", "<init>", "(I)V"⟩ : MethodName) jdk_67_method_2_code 2 none ({ frames := 2, cells := 1, slots := 16, locals := 28 } : Room) 1 16 #[(.ref a1), (.int p1)] h0 (fun v h => v = none ∧ ∃ b, Keep h0 h [a1] ∧ Fld Z h a1 "java/lang/AbstractStringBuilder" "value" "[B" (.ref b) ∧ Fld Z h a1 "java/lang/AbstractStringBuilder" "coder" "B" (.int 0) ∧ Fld Z h a1 "java/lang/AbstractStringBuilder" "count" "I" (.int 0) ∧ oA .byte Z h b (List.replicate n (.int 0)) ∧ Exa Z h b "[B" ∧ n0 ≤ b ∧ h0.size ≤ b ∧ a1 ≠ b) := by
  refine oC.of (L := #[.val (.ref a1), .val (.int p1)]) pn2 Z0 (fun m => by first | (simp [entryFrame, mkF, argsToLocals, Value.category]; done) | rfl) ?_
  intro p e s m below meth c T H
  refine o_aloadN H rfl rfl d2_0 rfl ?_
  refine o_iloadN H rfl d2_1 rfl ?_
  refine o_special H [(.int p1)] [] (rm3 l Z a0 hw a1 p1 n cs h0 n0 H.le E_a1 g_a1 F_value_a1 F_coder_a1 F_count_a1 hp1 hn16 S_c hcs) rfl (w12 hw) (w13 hw) (w16 hw) (w17 hw) (by decide) (lenOf pd3 rfl) rfl rfl (by decide) (Nat.le_of_ble_eq_true rfl) (by decide) (by decide) d2_2 rfl ?_
  intro T1 v1 h1 H1 q1
  obtain ⟨rfl, b1, K1, FV1, FC1, FN1, A1, X1, z1, y01, ne1⟩ := q1
  have k2 := (Keep.refl h0 [a1]).trans K1 (allS (Or.inl (by simp)) all0)
  have f3 := E_a1.keep K1
  have y1 : h0.size ≤ b1 := Nat.le_trans ((Keep.refl h0 [a1])).1 y01
  show oG p e below s n0 _ _ _ (T1.setTop (mkF m 5 #[.val (.ref a1), .val (.int p1)] []))
  exact o_return H1 rfl d2_5 (by decide) (by decide) ⟨rfl, _, k2, FV1, FC1, FN1, A1, X1, z1, y1, ne1⟩
theorem d19_0 : decode jdk_42_method_152_code 0 = .ok (.getstatic 38, 3) := by decide +kernel
theorem d19_3 : decode jdk_42_method_152_code 3 = .ok (.ifCond .eq 10, 3) := by decide +kernel
theorem d19_6 : decode jdk_42_method_152_code 6 = .ok (.aload_n 0, 1) := by decide +kernel
theorem d19_7 : decode jdk_42_method_152_code 7 = .ok (.getfield 15, 3) := by decide +kernel
theorem d19_10 : decode jdk_42_method_152_code 10 = .ok (.goto 4, 3) := by decide +kernel
theorem d19_14 : decode jdk_42_method_152_code 14 = .ok (.ireturn, 1) := by decide +kernel
theorem pn19 : plainFor (⟨"java/lang/String", "coder", "()B"⟩ : MethodName) = true := plainFor_of_name (by first | (simp [plainName, overriddenIn]; done) | decide +kernel)
theorem pd19 : parseMethodDescriptor "()B" = some ⟨[], some .byte⟩ := by decide +kernel
set_option maxRecDepth 65536 in
set_option maxHeartbeats 40000000 in
theorem rm19 (l : Launch) (Z : State) (a0 : Array Value) (hw : ∀ d ∈ tables_1, d.before a0 Z = true) (a1 : Addr) (cs : Int32) (h0 : Heap) (n0 : Nat) (Z0 : n0 ≤ h0.size) (F_coder_a1 : Fld Z h0 a1 "java/lang/String" "coder" "B" (.int (0 : Int32))) (S_c : Sta Z h0 "java/lang/String" "COMPACT_STRINGS" "Z" (.int cs)) (hcs : ¬ cs = 0) :
    oC l Z n0 (⟨"java/lang/String", "coder", "()B"⟩ : MethodName) jdk_42_method_152_code 1 (some .byte) ({ frames := 0, cells := 0, slots := 0, locals := 0 } : Room) 0 0 #[(.ref a1)] h0 (fun v h => v = some (.int 0) ∧ h0 = h) := by
  refine oC.of (L := #[.val (.ref a1)]) pn19 Z0 (fun m => by first | (simp [entryFrame, mkF, argsToLocals, Value.category]; done) | rfl) ?_
  intro p e s m below meth c T H
  refine o_getS H (host := "") (Or.inl (w111 hw)) S_c d19_0 rfl ?_
  intro T1 H2
  refine o_if_f H2 d19_3 (XT.i0_eq_f hcs) rfl ?_
  refine o_aloadN H2 rfl rfl d19_6 rfl ?_
  refine o_getF H2 (host := "") (Or.inl (w63 hw)) F_coder_a1 d19_7 rfl ?_
  intro T3 H4
  refine o_goto H4 d19_10 (pt := 14) (by decide) (by decide) ?_
  exact o_nreturn H4 .byte rfl (by simp) d19_14 (by decide) (by decide) ⟨rfl, rfl⟩
theorem d18_0 : decode jdk_42_method_54_code 0 = .ok (.aload_n 0, 1) := by decide +kernel
theorem d18_1 : decode jdk_42_method_54_code 1 = .ok (.getfield 9, 3) := by decide +kernel
theorem d18_4 : decode jdk_42_method_54_code 4 = .ok (.arraylength, 1) := by decide +kernel
theorem d18_5 : decode jdk_42_method_54_code 5 = .ok (.aload_n 0, 1) := by decide +kernel
theorem d18_6 : decode jdk_42_method_54_code 6 = .ok (.invokevirtual 335, 3) := by decide +kernel
theorem d18_9 : decode jdk_42_method_54_code 9 = .ok (.ishr, 1) := by decide +kernel
theorem d18_10 : decode jdk_42_method_54_code 10 = .ok (.ireturn, 1) := by decide +kernel
theorem pn18 : plainFor (⟨"java/lang/String", "length", "()I"⟩ : MethodName) = true := plainFor_of_name (by first | (simp [plainName, overriddenIn]; done) | decide +kernel)
theorem pd18 : parseMethodDescriptor "()I" = some ⟨[], some .int⟩ := by decide +kernel
set_option maxRecDepth 65536 in
set_option maxHeartbeats 40000000 in
theorem rm18 (l : Launch) (Z : State) (a0 : Array Value) (hw : ∀ d ∈ tables_1, d.before a0 Z = true) (a1 : Addr) (vb : Addr) (vs : List Value) (cs : Int32) (h0 : Heap) (n0 : Nat) (Z0 : n0 ≤ h0.size) (E_a1 : Exa Z h0 a1 "java/lang/String") (F_value_a1 : Fld Z h0 a1 "java/lang/String" "value" "[B" (.ref vb)) (F_coder_a1 : Fld Z h0 a1 "java/lang/String" "coder" "B" (.int (0 : Int32))) (AV : oA .byte Z h0 vb vs) (S_c : Sta Z h0 "java/lang/String" "COMPACT_STRINGS" "Z" (.int cs)) (hcs : ¬ cs = 0) :
    oC l Z n0 (⟨"java/lang/String", "length", "()I"⟩ : MethodName) jdk_42_method_54_code 1 (some .int) ({ frames := 1, cells := 0, slots := 0, locals := 14 } : Room) 0 0 #[(.ref a1)] h0 (fun v h => v = some (.int vs.length.toInt32) ∧ h0 = h) := by
  refine oC.of (L := #[.val (.ref a1)]) pn18 Z0 (fun m => by first | (simp [entryFrame, mkF, argsToLocals, Value.category]; done) | rfl) ?_
  intro p e s m below meth c T H
  refine o_aloadN H rfl rfl d18_0 rfl ?_
  refine o_getF H (host := "") (Or.inl (w78 hw)) F_value_a1 d18_1 rfl ?_
  intro T1 H2
  refine o_arraylength H2 (vs.length.toInt32) AV rfl d18_4 rfl ?_
  refine o_aloadN H2 rfl rfl d18_5 rfl ?_
  refine o_virtual H2 [] [(.int (vs.length.toInt32))] (rm19 l Z a0 hw a1 cs h0 n0 H2.le F_coder_a1 S_c hcs) E_a1 (w106 hw) (w107 hw) (o_nf (w109 hw)) (w109 hw) (w108 hw) (w22 hw) (w110 hw) (by decide) (lenOf pd19 rfl) rfl rfl (by decide) (Nat.le_of_ble_eq_true rfl) (by decide) (by decide) d18_6 rfl ?_
  intro T3 v3 h3 H3 q3
  obtain ⟨rfl, rfl⟩ := q3
  show oG p e below s n0 _ _ _ (T3.setTop (mkF m 9 #[.val (.ref a1)] [(.int (0 : Int32)), (.int (vs.length.toInt32))]))
  refine o_ishr H3 d18_9 rfl ?_
  exact o_ireturn H3 rfl d18_10 (by decide) (by decide) ⟨congrArg (fun z => some (Value.int z)) (own_shr0 _), rfl⟩
theorem d29_0 : decode jdk_41_method_11_code 0 = .ok (.iload_n 0, 1) := by decide +kernel
theorem d29_1 : decode jdk_41_method_11_code 1 = .ok (.ifCond .lt 8, 3) := by decide +kernel
theorem d29_4 : decode jdk_41_method_11_code 4 = .ok (.iload_n 0, 1) := by decide +kernel
theorem d29_5 : decode jdk_41_method_11_code 5 = .ok (.iload_n 1, 1) := by decide +kernel
theorem d29_6 : decode jdk_41_method_11_code 6 = .ok (.if_icmp .lt 10, 3) := by decide +kernel
theorem d29_16 : decode jdk_41_method_11_code 16 = .ok (.iload_n 0, 1) := by decide +kernel
theorem d29_17 : decode jdk_41_method_11_code 17 = .ok (.ireturn, 1) := by decide +kernel
theorem pn29 : plainFor (⟨"jdk/internal/util/Preconditions", "checkIndex", "(IILjava/util/function/BiFunction;)I"⟩ : MethodName) = true := plainFor_of_name (by first | (simp [plainName, overriddenIn]; done) | decide +kernel)
theorem pd29 : parseMethodDescriptor "(IILjava/util/function/BiFunction;)I" = some ⟨[.int, .int, (.object "java/util/function/BiFunction")], some .int⟩ := by decide +kernel
set_option maxRecDepth 65536 in
set_option maxHeartbeats 40000000 in
theorem rm29 (l : Launch) (Z : State) (a0 : Array Value) (hw : ∀ d ∈ tables_1, d.before a0 Z = true) (p1 : Int32) (p2 : Int32) (fm : Value)  (h0 : Heap) (n0 : Nat) (Z0 : n0 ≤ h0.size) (hx1 : ¬ p1 < 0) (hx2 : p1 < p2) (hfm : fm.isRef = true) :
    oC l Z n0 (⟨"jdk/internal/util/Preconditions", "checkIndex", "(IILjava/util/function/BiFunction;)I"⟩ : MethodName) jdk_41_method_11_code 3 (some .int) ({ frames := 0, cells := 0, slots := 0, locals := 0 } : Room) 0 0 #[(.int p1), (.int p2), fm] h0 (fun v h => v = some (.int p1) ∧ h0 = h) := by
  refine oC.of (L := #[.val (.int p1), .val (.int p2), .val fm]) pn29 Z0 (fun m => by first | (simp [entryFrame, mkF, argsToLocals, Value.category]; done) | rfl | (cases fm <;> first | rfl | (simp [Value.isRef] at hfm))) ?_
  intro p e s m below meth c T H
  refine o_iloadN H rfl d29_0 rfl ?_
  refine o_if_f H d29_1 (XT.i0_lt_f hx1) rfl ?_
  refine o_iloadN H rfl d29_4 rfl ?_
  refine o_iloadN H rfl d29_5 rfl ?_
  refine o_icmp_t H d29_6 (XT.ii_lt_t hx2) (pt := 16) (by decide) (by decide) ?_
  refine o_iloadN H rfl d29_16 rfl ?_
  exact o_ireturn H rfl d29_17 (by decide) (by decide) ⟨rfl, rfl⟩
theorem d28_0 : decode jdk_42_method_155_code 0 = .ok (.iload_n 0, 1) := by decide +kernel
theorem d28_1 : decode jdk_42_method_155_code 1 = .ok (.iload_n 1, 1) := by decide +kernel
theorem d28_2 : decode jdk_42_method_155_code 2 = .ok (.getstatic 1053, 3) := by decide +kernel
theorem d28_5 : decode jdk_42_method_155_code 5 = .ok (.invokestatic 1059, 3) := by decide +kernel
theorem d28_8 : decode jdk_42_method_155_code 8 = .ok (.pop, 1) := by decide +kernel
theorem d28_9 : decode jdk_42_method_155_code 9 = .ok (.return_, 1) := by decide +kernel
theorem pn28 : plainFor (⟨"java/lang/String", "checkIndex", "(II)V"⟩ : MethodName) = true := plainFor_of_name (by first | (simp [plainName, overriddenIn]; done) | decide +kernel)
theorem pd28 : parseMethodDescriptor "(II)V" = some ⟨[.int, .int], none⟩ := by decide +kernel
set_option maxRecDepth 65536 in
set_option maxHeartbeats 40000000 in
theorem rm28 (l : Launch) (Z : State) (a0 : Array Value) (hw : ∀ d ∈ tables_1, d.before a0 Z = true) (p1 : Int32) (p2 : Int32) (fm : Value) (h0 : Heap) (n0 : Nat) (Z0 : n0 ≤ h0.size) (hx1 : ¬ p1 < 0) (hx2 : p1 < p2) (S_f : Sta Z h0 "jdk/internal/util/Preconditions" "SIOOBE_FORMATTER" "Ljava/util/function/BiFunction;" fm) (hfm : fm.isRef = true) :
    oC l Z n0 (⟨"java/lang/String", "checkIndex", "(II)V"⟩ : MethodName) jdk_42_method_155_code 2 none ({ frames := 1, cells := 0, slots := 0, locals := 16 } : Room) 0 0 #[(.int p1), (.int p2)] h0 (fun v h => v = none ∧ h0 = h) := by
  refine oC.of (L := #[.val (.int p1), .val (.int p2)]) pn28 Z0 (fun m => by first | (simp [entryFrame, mkF, argsToLocals, Value.category]; done) | rfl) ?_
  intro p e s m below meth c T H
  refine o_iloadN H rfl d28_0 rfl ?_
  refine o_iloadN H rfl d28_1 rfl ?_
  refine o_getS H (host := "") (Or.inl (w152 hw)) S_f d28_2 rfl ?_
  intro T1 H2
  refine o_static H2 [(.int p1), (.int p2), fm] [] (rm29 l Z a0 hw p1 p2 fm h0 n0 H2.le hx1 hx2 hfm) (w154 hw) (w155 hw) (w153 hw) (w156 hw) (by decide) (lenOf pd29 rfl) rfl rfl (by decide) (Nat.le_of_ble_eq_true rfl) (by decide) (by decide) d28_5 rfl ?_
  intro T3 v3 h3 H3 q3
  obtain ⟨rfl, rfl⟩ := q3
  show oG p e below s n0 _ _ _ (T3.setTop (mkF m 8 #[.val (.int p1), .val (.int p2)] [(.int p1)]))
  refine o_pop H3 rfl d28_8 rfl ?_
  exact o_return H3 rfl d28_9 (by decide) (by decide) ⟨rfl, rfl⟩
theorem d27_0 : decode jdk_43_method_2_code 0 = .ok (.iload_n 1, 1) := by decide +kernel
theorem d27_1 : decode jdk_43_method_2_code 1 = .ok (.aload_n 0, 1) := by decide +kernel
theorem d27_2 : decode jdk_43_method_2_code 2 = .ok (.arraylength, 1) := by decide +kernel
theorem d27_3 : decode jdk_43_method_2_code 3 = .ok (.invokestatic 9, 3) := by decide +kernel
theorem d27_6 : decode jdk_43_method_2_code 6 = .ok (.aload_n 0, 1) := by decide +kernel
theorem d27_7 : decode jdk_43_method_2_code 7 = .ok (.iload_n 1, 1) := by decide +kernel
theorem d27_8 : decode jdk_43_method_2_code 8 = .ok (.baload, 1) := by decide +kernel
theorem d27_9 : decode jdk_43_method_2_code 9 = .ok (.sipush 255, 3) := by decide +kernel
theorem d27_12 : decode jdk_43_method_2_code 12 = .ok (.iand, 1) := by decide +kernel
theorem d27_13 : decode jdk_43_method_2_code 13 = .ok (.i2c, 1) := by decide +kernel
theorem d27_14 : decode jdk_43_method_2_code 14 = .ok (.ireturn, 1) := by decide +kernel
theorem pn27 : plainFor (⟨"java/lang/StringLatin1", "charAt", "([BI)C"⟩ : MethodName) = true := plainFor_of_name (by first | (simp [plainName, overriddenIn]; done) | decide +kernel)
theorem pd27 : parseMethodDescriptor "([BI)C" = some ⟨[(.array .byte), .int], some .char⟩ := by decide +kernel
set_option maxRecDepth 65536 in
set_option maxHeartbeats 40000000 in
theorem rm27 (l : Launch) (Z : State) (a0 : Array Value) (hw : ∀ d ∈ tables_1, d.before a0 Z = true) (a1 : Addr) (p1 : Int32) (vs : List Value) (j : Nat) (x1 : Int32) (fm : Value) (h0 : Heap) (n0 : Nat) (Z0 : n0 ≤ h0.size) (AV : oA .byte Z h0 a1 vs) (hj : p1.toInt = (j : Int)) (hv : vs[j]? = some (.int x1)) (S_f : Sta Z h0 "jdk/internal/util/Preconditions" "SIOOBE_FORMATTER" "Ljava/util/function/BiFunction;" fm) (hfm : fm.isRef = true) :
    oC l Z n0 (⟨"java/lang/StringLatin1", "charAt", "([BI)C"⟩ : MethodName) jdk_43_method_2_code 2 (some .char) ({ frames := 2, cells := 0, slots := 0, locals := 32 } : Room) 0 0 #[(.ref a1), (.int p1)] h0 (fun v h => v = some (.int (nar .char ((x1 &&& 255).toUInt32.toUInt16.toUInt32.toInt32))) ∧ h0 = h) := by
  refine oC.of (L := #[.val (.ref a1), .val (.int p1)]) pn27 Z0 (fun m => by first | (simp [entryFrame, mkF, argsToLocals, Value.category]; done) | rfl) ?_
  intro p e s m below meth c T H
  refine o_iloadN H rfl d27_0 rfl ?_
  refine o_aloadN H rfl rfl d27_1 rfl ?_
  refine o_arraylength H (vs.length.toInt32) AV rfl d27_2 rfl ?_
  refine o_static H [(.int p1), (.int (vs.length.toInt32))] [] (rm28 l Z a0 hw p1 (vs.length.toInt32) fm h0 n0 H.le (own_cix AV hj hv).1 (own_cix AV hj hv).2 S_f hfm) (w149 hw) (w150 hw) (w22 hw) (w151 hw) (by decide) (lenOf pd28 rfl) rfl rfl (by decide) (Nat.le_of_ble_eq_true rfl) (by decide) (by decide) d27_3 rfl ?_
  intro T1 v1 h1 H1 q1
  obtain ⟨rfl, rfl⟩ := q1
  show oG p e below s n0 _ _ _ (T1.setTop (mkF m 6 #[.val (.ref a1), .val (.int p1)] []))
  refine o_aloadN H1 rfl rfl d27_6 rfl ?_
  refine o_iloadN H1 rfl d27_7 rfl ?_
  refine o_baload H1 j (.int x1) AV hj hv d27_8 rfl ?_
  refine o_sipush H1 (255 : Int32) rfl d27_9 rfl ?_
  refine o_iand H1 d27_12 rfl ?_
  refine o_i2c H1 d27_13 rfl ?_
  exact o_nreturn H1 .char rfl (by simp) d27_14 (by decide) (by decide) ⟨rfl, rfl⟩
theorem d25_0 : decode jdk_42_method_56_code 0 = .ok (.aload_n 0, 1) := by decide +kernel
theorem d25_1 : decode jdk_42_method_56_code 1 = .ok (.invokevirtual 492, 3) := by decide +kernel
theorem d25_4 : decode jdk_42_method_56_code 4 = .ok (.ifCond .eq 12, 3) := by decide +kernel
theorem d25_7 : decode jdk_42_method_56_code 7 = .ok (.aload_n 0, 1) := by decide +kernel
theorem d25_8 : decode jdk_42_method_56_code 8 = .ok (.getfield 9, 3) := by decide +kernel
theorem d25_11 : decode jdk_42_method_56_code 11 = .ok (.iload_n 1, 1) := by decide +kernel
theorem d25_12 : decode jdk_42_method_56_code 12 = .ok (.invokestatic 495, 3) := by decide +kernel
theorem d25_15 : decode jdk_42_method_56_code 15 = .ok (.ireturn, 1) := by decide +kernel
theorem pn25 : plainFor (⟨"java/lang/String", "charAt", "(I)C"⟩ : MethodName) = true := plainFor_of_name (by first | (simp [plainName, overriddenIn]; done) | decide +kernel)
theorem pd25 : parseMethodDescriptor "(I)C" = some ⟨[.int], some .char⟩ := by decide +kernel
set_option maxRecDepth 65536 in
set_option maxHeartbeats 40000000 in
theorem rm25 (l : Launch) (Z : State) (a0 : Array Value) (hw : ∀ d ∈ tables_1, d.before a0 Z = true) (a1 : Addr) (p1 : Int32) (vb : Addr) (vs : List Value) (j : Nat) (x1 cs : Int32) (fm : Value) (h0 : Heap) (n0 : Nat) (Z0 : n0 ≤ h0.size) (E_a1 : Exa Z h0 a1 "java/lang/String") (F_value_a1 : Fld Z h0 a1 "java/lang/String" "value" "[B" (.ref vb)) (F_coder_a1 : Fld Z h0 a1 "java/lang/String" "coder" "B" (.int (0 : Int32))) (AV : oA .byte Z h0 vb vs) (hj : p1.toInt = (j : Int)) (hv : vs[j]? = some (.int x1)) (S_c : Sta Z h0 "java/lang/String" "COMPACT_STRINGS" "Z" (.int cs)) (hcs : ¬ cs = 0) (S_f : Sta Z h0 "jdk/internal/util/Preconditions" "SIOOBE_FORMATTER" "Ljava/util/function/BiFunction;" fm) (hfm : fm.isRef = true) :
    oC l Z n0 (⟨"java/lang/String", "charAt", "(I)C"⟩ : MethodName) jdk_42_method_56_code 2 (some .char) ({ frames := 3, cells := 0, slots := 0, locals := 50 } : Room) 0 0 #[(.ref a1), (.int p1)] h0 (fun v h => v = some (.int (own_ch x1)) ∧ h0 = h) := by
  refine oC.of (L := #[.val (.ref a1), .val (.int p1)]) pn25 Z0 (fun m => by first | (simp [entryFrame, mkF, argsToLocals, Value.category]; done) | rfl) ?_
  intro p e s m below meth c T H
  refine o_aloadN H rfl rfl d25_0 rfl ?_
  refine o_virtual H [] [] (rm26 l Z a0 hw a1 cs h0 n0 H.le F_coder_a1 S_c hcs) E_a1 (w141 hw) (w142 hw) (o_nf (w144 hw)) (w144 hw) (w143 hw) (w22 hw) (w145 hw) (by decide) (lenOf pd26 rfl) rfl rfl (by decide) (Nat.le_of_ble_eq_true rfl) (by decide) (by decide) d25_1 rfl ?_
  intro T1 v1 h1 H1 q1
  obtain ⟨rfl, rfl⟩ := q1
  show oG p e below s n0 _ _ _ (T1.setTop (mkF m 4 #[.val (.ref a1), .val (.int p1)] [(.int (1 : Int32))]))
  refine o_if_f H1 d25_4 (by decide) rfl ?_
  refine o_aloadN H1 rfl rfl d25_7 rfl ?_
  refine o_getF H1 (host := "") (Or.inl (w78 hw)) F_value_a1 d25_8 rfl ?_
  intro T2 H3
  refine o_iloadN H3 rfl d25_11 rfl ?_
  refine o_static H3 [(.ref vb), (.int p1)] [] (rm27 l Z a0 hw vb p1 vs j x1 fm h0 n0 H3.le AV hj hv S_f hfm) (w146 hw) (w147 hw) (w134 hw) (w148 hw) (by decide) (lenOf pd27 rfl) rfl rfl (by decide) (Nat.le_of_ble_eq_true rfl) (by decide) (by decide) d25_12 rfl ?_
  intro T4 v4 h4 H4 q4
  obtain ⟨rfl, rfl⟩ := q4
  show oG p e below s n0 _ _ _ (T4.setTop (mkF m 15 #[.val (.ref a1), .val (.int p1)] [(.int (nar .char ((x1 &&& 255).toUInt32.toUInt16.toUInt32.toInt32)))]))
  exact o_nreturn H4 .char rfl (by simp) d25_15 (by decide) (by decide) ⟨rfl, rfl⟩
theorem d20_0 : decode method_6_code 0 = .ok (.iload_n 2, 1) := by decide +kernel
theorem d20_1 : decode method_6_code 1 = .ok (.iload_n 3, 1) := by decide +kernel
theorem d20_2 : decode method_6_code 2 = .ok (.if_icmp .ge 14, 3) := by decide +kernel
theorem d20_5 : decode method_6_code 5 = .ok (.aload_n 0, 1) := by decide +kernel
theorem d20_6 : decode method_6_code 6 = .ok (.iload_n 2, 1) := by decide +kernel
theorem d20_7 : decode method_6_code 7 = .ok (.invokevirtual 53, 3) := by decide +kernel
theorem d20_10 : decode method_6_code 10 = .ok (.aload_n 1, 1) := by decide +kernel
theorem d20_11 : decode method_6_code 11 = .ok (.iload_n 2, 1) := by decide +kernel
theorem d20_12 : decode method_6_code 12 = .ok (.caload, 1) := by decide +kernel
theorem d20_13 : decode method_6_code 13 = .ok (.if_icmp .ne 7, 3) := by decide +kernel
theorem d20_16 : decode method_6_code 16 = .ok (.iconst 1, 1) := by decide +kernel
theorem d20_17 : decode method_6_code 17 = .ok (.goto 4, 3) := by decide +kernel
theorem d20_21 : decode method_6_code 21 = .ok (.ireturn, 1) := by decide +kernel
theorem pn20 : plainFor (⟨"com/example/encase/encase/codec/Base32EncodePinLaw", "at", "(Ljava/lang/String;[CII)Z"⟩ : MethodName) = true := plainFor_of_name (by first | (simp [plainName, overriddenIn]; done) | decide +kernel)
theorem pd20 : parseMethodDescriptor "(Ljava/lang/String;[CII)Z" = some ⟨[(.object "java/lang/String"), (.array .char), .int, .int], some .boolean⟩ := by decide +kernel
set_option maxRecDepth 65536 in
set_option maxHeartbeats 40000000 in
theorem rm20 (l : Launch) (Z : State) (a0 : Array Value) (hw : ∀ d ∈ tables_1, d.before a0 Z = true) (a1 : Addr) (a2 : Addr) (p1 : Int32) (p2 : Int32) (vb : Addr) (vs es : List Value) (j : Nat) (x1 x2 cs : Int32) (fm : Value) (h0 : Heap) (n0 : Nat) (Z0 : n0 ≤ h0.size) (E_a1 : Exa Z h0 a1 "java/lang/String") (F_value_a1 : Fld Z h0 a1 "java/lang/String" "value" "[B" (.ref vb)) (F_coder_a1 : Fld Z h0 a1 "java/lang/String" "coder" "B" (.int (0 : Int32))) (AV : oA .byte Z h0 vb vs) (AE : oA .char Z h0 a2 es) (hj : p1.toInt = (j : Int)) (hv : vs[j]? = some (.int x1)) (he : es[j]? = some (.int x2)) (hlt : p1 < p2) (heq : own_ch x1 = x2) (S_c : Sta Z h0 "java/lang/String" "COMPACT_STRINGS" "Z" (.int cs)) (hcs : ¬ cs = 0) (S_f : Sta Z h0 "jdk/internal/util/Preconditions" "SIOOBE_FORMATTER" "Ljava/util/function/BiFunction;" fm) (hfm : fm.isRef = true) :
    oC l Z n0 (⟨"com/example/encase/encase/codec/Base32EncodePinLaw", "at", "(Ljava/lang/String;[CII)Z"⟩ : MethodName) method_6_code 4 (some .boolean) ({ frames := 4, cells := 0, slots := 0, locals := 66 } : Room) 0 0 #[(.ref a1), (.ref a2), (.int p1), (.int p2)] h0 (fun v h => v = some (.int 1) ∧ h0 = h) := by
  refine oC.of (L := #[.val (.ref a1), .val (.ref a2), .val (.int p1), .val (.int p2)]) pn20 Z0 (fun m => by first | (simp [entryFrame, mkF, argsToLocals, Value.category]; done) | rfl) ?_
  intro p e s m below meth c T H
  refine o_iloadN H rfl d20_0 rfl ?_
  refine o_iloadN H rfl d20_1 rfl ?_
  refine o_icmp_f H d20_2 (XT.ii_ge_f hlt) rfl ?_
  refine o_aloadN H rfl rfl d20_5 rfl ?_
  refine o_iloadN H rfl d20_6 rfl ?_
  refine o_virtual H [(.int p1)] [] (rm25 l Z a0 hw a1 p1 vb vs j x1 cs fm h0 n0 H.le E_a1 F_value_a1 F_coder_a1 AV hj hv S_c hcs S_f hfm) E_a1 (w136 hw) (w137 hw) (o_nf (w139 hw)) (w139 hw) (w138 hw) (w22 hw) (w140 hw) (by decide) (lenOf pd25 rfl) rfl rfl (by decide) (Nat.le_of_ble_eq_true rfl) (by decide) (by decide) d20_7 rfl ?_
  intro T1 v1 h1 H1 q1
  obtain ⟨rfl, rfl⟩ := q1
  show oG p e below s n0 _ _ _ (T1.setTop (mkF m 10 #[.val (.ref a1), .val (.ref a2), .val (.int p1), .val (.int p2)] [(.int (own_ch x1))]))
  refine o_aloadN H1 rfl rfl d20_10 rfl ?_
  refine o_iloadN H1 rfl d20_11 rfl ?_
  refine o_caload H1 j (.int x2) AE hj he d20_12 rfl ?_
  refine o_icmp_f H1 d20_13 (XT.ii_ne_f heq) rfl ?_
  refine o_iconst H1 (1 : Int32) rfl d20_16 rfl ?_
  refine o_goto H1 d20_17 (pt := 21) (by decide) (by decide) ?_
  exact o_nreturn H1 .boolean rfl (by simp) d20_21 (by decide) (by decide) ⟨rfl, rfl⟩
set_option maxRecDepth 65536 in
set_option maxHeartbeats 40000000 in
theorem rm20_N (l : Launch) (Z : State) (a0 : Array Value) (hw : ∀ d ∈ tables_1, d.before a0 Z = true) (a1 : Addr) (a2 : Addr) (p1 : Int32) (p2 : Int32)  (h0 : Heap) (n0 : Nat) (Z0 : n0 ≤ h0.size) (hge : ¬ p1 < p2) :
    oC l Z n0 (⟨"com/example/encase/encase/codec/Base32EncodePinLaw", "at", "(Ljava/lang/String;[CII)Z"⟩ : MethodName) method_6_code 4 (some .boolean) ({ frames := 4, cells := 0, slots := 0, locals := 66 } : Room) 0 0 #[(.ref a1), (.ref a2), (.int p1), (.int p2)] h0 (fun v h => v = some (.int 1) ∧ h0 = h) := by
  refine oC.of (L := #[.val (.ref a1), .val (.ref a2), .val (.int p1), .val (.int p2)]) pn20 Z0 (fun m => by first | (simp [entryFrame, mkF, argsToLocals, Value.category]; done) | rfl) ?_
  intro p e s m below meth c T H
  refine o_iloadN H rfl d20_0 rfl ?_
  refine o_iloadN H rfl d20_1 rfl ?_
  refine o_icmp_t H d20_2 (XT.ii_ge_t hge) (pt := 16) (by decide) (by decide) ?_
  refine o_iconst H (1 : Int32) rfl d20_16 rfl ?_
  refine o_goto H d20_17 (pt := 21) (by decide) (by decide) ?_
  exact o_nreturn H .boolean rfl (by simp) d20_21 (by decide) (by decide) ⟨rfl, rfl⟩
def own_mn (x z : Int32) : Int32 := if z < x then z else x
theorem d13_0 : decode jdk_29_method_69_code 0 = .ok (.iload_n 0, 1) := by decide +kernel
theorem d13_1 : decode jdk_29_method_69_code 1 = .ok (.iload_n 1, 1) := by decide +kernel
theorem d13_2 : decode jdk_29_method_69_code 2 = .ok (.if_icmp .gt 7, 3) := by decide +kernel
theorem d13_5 : decode jdk_29_method_69_code 5 = .ok (.iload_n 0, 1) := by decide +kernel
theorem d13_6 : decode jdk_29_method_69_code 6 = .ok (.goto 4, 3) := by decide +kernel
theorem d13_9 : decode jdk_29_method_69_code 9 = .ok (.iload_n 1, 1) := by decide +kernel
theorem d13_10 : decode jdk_29_method_69_code 10 = .ok (.ireturn, 1) := by decide +kernel
theorem pn13 : plainFor (⟨"java/lang/Math", "min", "(II)I"⟩ : MethodName) = true := Jvm.Free.JP.mathPlain rfl (by decide +kernel)
theorem pd13 : parseMethodDescriptor "(II)I" = some ⟨[.int, .int], some .int⟩ := by decide +kernel
set_option maxRecDepth 65536 in
set_option maxHeartbeats 40000000 in
theorem rm13 (l : Launch) (Z : State) (a0 : Array Value) (hw : ∀ d ∈ tables_1, d.before a0 Z = true) (p1 : Int32) (p2 : Int32)  (h0 : Heap) (n0 : Nat) (Z0 : n0 ≤ h0.size)  :
    oC l Z n0 (⟨"java/lang/Math", "min", "(II)I"⟩ : MethodName) jdk_29_method_69_code 2 (some .int) ({ frames := 0, cells := 0, slots := 0, locals := 0 } : Room) 0 0 #[(.int p1), (.int p2)] h0 (fun v h => v = some (.int (own_mn p1 p2)) ∧ h0 = h) := by
  refine oC.of (L := #[.val (.int p1), .val (.int p2)]) pn13 Z0 (fun m => by first | (simp [entryFrame, mkF, argsToLocals, Value.category]; done) | rfl) ?_
  intro p e s m below meth c T H
  refine o_iloadN H rfl d13_0 rfl ?_
  refine o_iloadN H rfl d13_1 rfl ?_
  refine o_icmp_gt H d13_2 (pt := 9) (by decide) (by decide) rfl ?_ ?_
  · intro c2_1
    refine o_iloadN H rfl d13_9 rfl ?_
    exact o_ireturn H rfl d13_10 (by decide) (by decide) ⟨by simp [own_mn, c2_1], rfl⟩
  · intro c2_1
    refine o_iloadN H rfl d13_5 rfl ?_
    refine o_goto H d13_6 (pt := 10) (by decide) (by decide) ?_
    exact o_ireturn H rfl d13_10 (by decide) (by decide) ⟨by simp [own_mn, c2_1], rfl⟩
def own_mx (x z : Int32) : Int32 := if x < z then z else x
theorem d14_0 : decode jdk_29_method_65_code 0 = .ok (.iload_n 0, 1) := by decide +kernel
theorem d14_1 : decode jdk_29_method_65_code 1 = .ok (.iload_n 1, 1) := by decide +kernel
theorem d14_2 : decode jdk_29_method_65_code 2 = .ok (.if_icmp .lt 7, 3) := by decide +kernel
theorem d14_5 : decode jdk_29_method_65_code 5 = .ok (.iload_n 0, 1) := by decide +kernel
theorem d14_6 : decode jdk_29_method_65_code 6 = .ok (.goto 4, 3) := by decide +kernel
theorem d14_9 : decode jdk_29_method_65_code 9 = .ok (.iload_n 1, 1) := by decide +kernel
theorem d14_10 : decode jdk_29_method_65_code 10 = .ok (.ireturn, 1) := by decide +kernel
theorem pn14 : plainFor (⟨"java/lang/Math", "max", "(II)I"⟩ : MethodName) = true := Jvm.Free.JP.mathPlain rfl (by decide +kernel)
theorem pd14 : parseMethodDescriptor "(II)I" = some ⟨[.int, .int], some .int⟩ := by decide +kernel
set_option maxRecDepth 65536 in
set_option maxHeartbeats 40000000 in
theorem rm14 (l : Launch) (Z : State) (a0 : Array Value) (hw : ∀ d ∈ tables_1, d.before a0 Z = true) (p1 : Int32) (p2 : Int32)  (h0 : Heap) (n0 : Nat) (Z0 : n0 ≤ h0.size)  :
    oC l Z n0 (⟨"java/lang/Math", "max", "(II)I"⟩ : MethodName) jdk_29_method_65_code 2 (some .int) ({ frames := 0, cells := 0, slots := 0, locals := 0 } : Room) 0 0 #[(.int p1), (.int p2)] h0 (fun v h => v = some (.int (own_mx p1 p2)) ∧ h0 = h) := by
  refine oC.of (L := #[.val (.int p1), .val (.int p2)]) pn14 Z0 (fun m => by first | (simp [entryFrame, mkF, argsToLocals, Value.category]; done) | rfl) ?_
  intro p e s m below meth c T H
  refine o_iloadN H rfl d14_0 rfl ?_
  refine o_iloadN H rfl d14_1 rfl ?_
  refine o_icmp_lt H d14_2 (pt := 9) (by decide) (by decide) rfl ?_ ?_
  · intro c2_1
    refine o_iloadN H rfl d14_9 rfl ?_
    exact o_ireturn H rfl d14_10 (by decide) (by decide) ⟨by simp [own_mx, c2_1], rfl⟩
  · intro c2_1
    refine o_iloadN H rfl d14_5 rfl ?_
    refine o_goto H d14_6 (pt := 10) (by decide) (by decide) ?_
    exact o_ireturn H rfl d14_10 (by decide) (by decide) ⟨by simp [own_mx, c2_1], rfl⟩
theorem d15_0 : decode method_3_code 0 = .ok (.ldc2_w 47, 3) := by decide +kernel
theorem d15_3 : decode method_3_code 3 = .ok (.lstore_n 3, 1) := by decide +kernel
theorem d15_4 : decode method_3_code 4 = .ok (.lconst 1, 1) := by decide +kernel
theorem d15_5 : decode method_3_code 5 = .ok (.bipush 40, 2) := by decide +kernel
theorem d15_7 : decode method_3_code 7 = .ok (.bipush 8, 2) := by decide +kernel
theorem d15_9 : decode method_3_code 9 = .ok (.iload_n 2, 1) := by decide +kernel
theorem d15_10 : decode method_3_code 10 = .ok (.imul, 1) := by decide +kernel
theorem d15_11 : decode method_3_code 11 = .ok (.isub, 1) := by decide +kernel
theorem d15_12 : decode method_3_code 12 = .ok (.lshl, 1) := by decide +kernel
theorem d15_13 : decode method_3_code 13 = .ok (.lconst 1, 1) := by decide +kernel
theorem d15_14 : decode method_3_code 14 = .ok (.lsub, 1) := by decide +kernel
theorem d15_15 : decode method_3_code 15 = .ok (.lstore 5, 2) := by decide +kernel
theorem d15_17 : decode method_3_code 17 = .ok (.lload_n 0, 1) := by decide +kernel
theorem d15_18 : decode method_3_code 18 = .ok (.lload_n 3, 1) := by decide +kernel
theorem d15_19 : decode method_3_code 19 = .ok (.land, 1) := by decide +kernel
theorem d15_20 : decode method_3_code 20 = .ok (.lload 5, 2) := by decide +kernel
theorem d15_22 : decode method_3_code 22 = .ok (.ldc2_w 49, 3) := by decide +kernel
theorem d15_25 : decode method_3_code 25 = .ok (.lxor, 1) := by decide +kernel
theorem d15_26 : decode method_3_code 26 = .ok (.land, 1) := by decide +kernel
theorem d15_27 : decode method_3_code 27 = .ok (.lreturn, 1) := by decide +kernel
theorem pn15 : plainFor (⟨"com/example/encase/encase/codec/Base32EncodePinLaw", "keep", "(JI)J"⟩ : MethodName) = true := plainFor_of_name (by first | (simp [plainName, overriddenIn]; done) | decide +kernel)
theorem pd15 : parseMethodDescriptor "(JI)J" = some ⟨[.long, .int], some .long⟩ := by decide +kernel
set_option maxRecDepth 65536 in
set_option maxHeartbeats 40000000 in
theorem rm15 (l : Launch) (Z : State) (a0 : Array Value) (hw : ∀ d ∈ tables_1, d.before a0 Z = true) (p1 : Int64) (p2 : Int32)  (h0 : Heap) (n0 : Nat) (Z0 : n0 ≤ h0.size)  :
    oC l Z n0 (⟨"com/example/encase/encase/codec/Base32EncodePinLaw", "keep", "(JI)J"⟩ : MethodName) method_3_code 7 (some .long) ({ frames := 0, cells := 0, slots := 0, locals := 0 } : Room) 0 0 #[(.long p1), (.int p2)] h0 (fun v h => v = some (.long (own_keep p1 p2)) ∧ h0 = h) := by
  refine oC.of (L := #[.val (.long p1), .second, .val (.int p2), .unset, .unset, .unset, .unset]) pn15 Z0 (fun m => by first | (simp [entryFrame, mkF, argsToLocals, Value.category]; done) | rfl) ?_
  intro p e s m below meth c T H
  refine o_ldcJ H (1099511627775 : Int64) (w91 hw) d15_0 rfl ?_
  refine o_lstoreN H (L' := #[.val (.long p1), .second, .val (.int p2), .val (.long (1099511627775 : Int64)), .second, .unset, .unset]) rfl d15_3 rfl ?_
  refine o_lconst H (1 : Int64) rfl d15_4 rfl ?_
  refine o_bipush H (40 : Int32) rfl d15_5 rfl ?_
  refine o_bipush H (8 : Int32) rfl d15_7 rfl ?_
  refine o_iloadN H rfl d15_9 rfl ?_
  refine o_imul H d15_10 rfl ?_
  refine o_isub H d15_11 rfl ?_
  refine o_lshl H d15_12 rfl ?_
  refine o_lconst H (1 : Int64) rfl d15_13 rfl ?_
  refine o_lsub H d15_14 rfl ?_
  refine o_lstore H (L' := #[.val (.long p1), .second, .val (.int p2), .val (.long (1099511627775 : Int64)), .second, .val (.long (((1 : Int64) <<< (((40 : Int32) - ((8 : Int32) * p2)).toInt64 &&& 63)) - (1 : Int64))), .second]) rfl d15_15 rfl ?_
  refine o_lloadN H rfl d15_17 rfl ?_
  refine o_lloadN H rfl d15_18 rfl ?_
  refine o_land H d15_19 rfl ?_
  refine o_lload H rfl d15_20 rfl ?_
  refine o_ldcJ H (-1 : Int64) (w92 hw) d15_22 rfl ?_
  refine o_lxor H d15_25 rfl ?_
  refine o_land H d15_26 rfl ?_
  exact o_lreturn H rfl d15_27 (by decide) (by decide) ⟨rfl, rfl⟩
theorem d16_0 : decode method_4_code 0 = .ok (.lload_n 0, 1) := by decide +kernel
theorem d16_1 : decode method_4_code 1 = .ok (.bipush 35, 2) := by decide +kernel
theorem d16_3 : decode method_4_code 3 = .ok (.iconst 5, 1) := by decide +kernel
theorem d16_4 : decode method_4_code 4 = .ok (.iload_n 2, 1) := by decide +kernel
theorem d16_5 : decode method_4_code 5 = .ok (.imul, 1) := by decide +kernel
theorem d16_6 : decode method_4_code 6 = .ok (.isub, 1) := by decide +kernel
theorem d16_7 : decode method_4_code 7 = .ok (.lushr, 1) := by decide +kernel
theorem d16_8 : decode method_4_code 8 = .ok (.ldc2_w 51, 3) := by decide +kernel
theorem d16_11 : decode method_4_code 11 = .ok (.land, 1) := by decide +kernel
theorem d16_12 : decode method_4_code 12 = .ok (.l2i, 1) := by decide +kernel
theorem d16_13 : decode method_4_code 13 = .ok (.ireturn, 1) := by decide +kernel
theorem pn16 : plainFor (⟨"com/example/encase/encase/codec/Base32EncodePinLaw", "g", "(JI)I"⟩ : MethodName) = true := plainFor_of_name (by first | (simp [plainName, overriddenIn]; done) | decide +kernel)
theorem pd16 : parseMethodDescriptor "(JI)I" = some ⟨[.long, .int], some .int⟩ := by decide +kernel
set_option maxRecDepth 65536 in
set_option maxHeartbeats 40000000 in
theorem rm16 (l : Launch) (Z : State) (a0 : Array Value) (hw : ∀ d ∈ tables_1, d.before a0 Z = true) (p1 : Int64) (p2 : Int32)  (h0 : Heap) (n0 : Nat) (Z0 : n0 ≤ h0.size)  :
    oC l Z n0 (⟨"com/example/encase/encase/codec/Base32EncodePinLaw", "g", "(JI)I"⟩ : MethodName) method_4_code 3 (some .int) ({ frames := 0, cells := 0, slots := 0, locals := 0 } : Room) 0 0 #[(.long p1), (.int p2)] h0 (fun v h => v = some (.int (own_g p1 p2)) ∧ h0 = h) := by
  refine oC.of (L := #[.val (.long p1), .second, .val (.int p2)]) pn16 Z0 (fun m => by first | (simp [entryFrame, mkF, argsToLocals, Value.category]; done) | rfl) ?_
  intro p e s m below meth c T H
  refine o_lloadN H rfl d16_0 rfl ?_
  refine o_bipush H (35 : Int32) rfl d16_1 rfl ?_
  refine o_iconst H (5 : Int32) rfl d16_3 rfl ?_
  refine o_iloadN H rfl d16_4 rfl ?_
  refine o_imul H d16_5 rfl ?_
  refine o_isub H d16_6 rfl ?_
  refine o_lushr H d16_7 rfl ?_
  refine o_ldcJ H (31 : Int64) (w97 hw) d16_8 rfl ?_
  refine o_land H d16_11 rfl ?_
  refine o_l2i H d16_12 rfl ?_
  exact o_ireturn H rfl d16_13 (by decide) (by decide) ⟨rfl, rfl⟩
theorem d17_0 : decode method_5_code 0 = .ok (.iload_n 0, 1) := by decide +kernel
theorem d17_1 : decode method_5_code 1 = .ok (.bipush 26, 2) := by decide +kernel
theorem d17_3 : decode method_5_code 3 = .ok (.if_icmp .ge 11, 3) := by decide +kernel
theorem d17_6 : decode method_5_code 6 = .ok (.bipush 97, 2) := by decide +kernel
theorem d17_8 : decode method_5_code 8 = .ok (.iload_n 0, 1) := by decide +kernel
theorem d17_9 : decode method_5_code 9 = .ok (.iadd, 1) := by decide +kernel
theorem d17_10 : decode method_5_code 10 = .ok (.i2c, 1) := by decide +kernel
theorem d17_11 : decode method_5_code 11 = .ok (.goto 11, 3) := by decide +kernel
theorem d17_14 : decode method_5_code 14 = .ok (.bipush 50, 2) := by decide +kernel
theorem d17_16 : decode method_5_code 16 = .ok (.iload_n 0, 1) := by decide +kernel
theorem d17_17 : decode method_5_code 17 = .ok (.bipush 26, 2) := by decide +kernel
theorem d17_19 : decode method_5_code 19 = .ok (.isub, 1) := by decide +kernel
theorem d17_20 : decode method_5_code 20 = .ok (.iadd, 1) := by decide +kernel
theorem d17_21 : decode method_5_code 21 = .ok (.i2c, 1) := by decide +kernel
theorem d17_22 : decode method_5_code 22 = .ok (.ireturn, 1) := by decide +kernel
theorem pn17 : plainFor (⟨"com/example/encase/encase/codec/Base32EncodePinLaw", "sym", "(I)C"⟩ : MethodName) = true := plainFor_of_name (by first | (simp [plainName, overriddenIn]; done) | decide +kernel)
theorem pd17 : parseMethodDescriptor "(I)C" = some ⟨[.int], some .char⟩ := by decide +kernel
set_option maxRecDepth 65536 in
set_option maxHeartbeats 40000000 in
theorem rm17 (l : Launch) (Z : State) (a0 : Array Value) (hw : ∀ d ∈ tables_1, d.before a0 Z = true) (p1 : Int32)  (h0 : Heap) (n0 : Nat) (Z0 : n0 ≤ h0.size)  :
    oC l Z n0 (⟨"com/example/encase/encase/codec/Base32EncodePinLaw", "sym", "(I)C"⟩ : MethodName) method_5_code 1 (some .char) ({ frames := 0, cells := 0, slots := 0, locals := 0 } : Room) 0 0 #[(.int p1)] h0 (fun v h => v = some (.int (nar .char (own_sym p1))) ∧ h0 = h) := by
  refine oC.of (L := #[.val (.int p1)]) pn17 Z0 (fun m => by first | (simp [entryFrame, mkF, argsToLocals, Value.category]; done) | rfl) ?_
  intro p e s m below meth c T H
  refine o_iloadN H rfl d17_0 rfl ?_
  refine o_bipush H (26 : Int32) rfl d17_1 rfl ?_
  refine o_icmp_ge H d17_3 (pt := 14) (by decide) (by decide) rfl ?_ ?_
  · intro c3_1
    refine o_bipush H (50 : Int32) rfl d17_14 rfl ?_
    refine o_iloadN H rfl d17_16 rfl ?_
    refine o_bipush H (26 : Int32) rfl d17_17 rfl ?_
    refine o_isub H d17_19 rfl ?_
    refine o_iadd H d17_20 rfl ?_
    refine o_i2c H d17_21 rfl ?_
    exact o_nreturn H .char rfl (by simp) d17_22 (by decide) (by decide) ⟨by simp [own_sym, c3_1], rfl⟩
  · intro c3_1
    refine o_bipush H (97 : Int32) rfl d17_6 rfl ?_
    refine o_iloadN H rfl d17_8 rfl ?_
    refine o_iadd H d17_9 rfl ?_
    refine o_i2c H d17_10 rfl ?_
    refine o_goto H d17_11 (pt := 22) (by decide) (by decide) ?_
    exact o_nreturn H .char rfl (by simp) d17_22 (by decide) (by decide) ⟨by simp [own_sym, c3_1], rfl⟩
theorem d1_0 : decode prog_16_method_2_code 0 = .ok (.new 7, 3) := by decide +kernel
theorem d1_3 : decode prog_16_method_2_code 3 = .ok (.dup, 1) := by decide +kernel
theorem d1_4 : decode prog_16_method_2_code 4 = .ok (.aload_n 0, 1) := by decide +kernel
theorem d1_5 : decode prog_16_method_2_code 5 = .ok (.arraylength, 1) := by decide +kernel
theorem d1_6 : decode prog_16_method_2_code 6 = .ok (.bipush 8, 2) := by decide +kernel
theorem d1_8 : decode prog_16_method_2_code 8 = .ok (.imul, 1) := by decide +kernel
theorem d1_9 : decode prog_16_method_2_code 9 = .ok (.iconst 4, 1) := by decide +kernel
theorem d1_10 : decode prog_16_method_2_code 10 = .ok (.iadd, 1) := by decide +kernel
theorem d1_11 : decode prog_16_method_2_code 11 = .ok (.iconst 5, 1) := by decide +kernel
theorem d1_12 : decode prog_16_method_2_code 12 = .ok (.idiv, 1) := by decide +kernel
theorem d1_13 : decode prog_16_method_2_code 13 = .ok (.invokespecial 9, 3) := by decide +kernel
theorem d1_16 : decode prog_16_method_2_code 16 = .ok (.astore_n 1, 1) := by decide +kernel
theorem d1_17 : decode prog_16_method_2_code 17 = .ok (.iconst 0, 1) := by decide +kernel
theorem d1_18 : decode prog_16_method_2_code 18 = .ok (.istore_n 2, 1) := by decide +kernel
theorem d1_19 : decode prog_16_method_2_code 19 = .ok (.iconst 0, 1) := by decide +kernel
theorem d1_20 : decode prog_16_method_2_code 20 = .ok (.istore_n 3, 1) := by decide +kernel
theorem d1_21 : decode prog_16_method_2_code 21 = .ok (.aload_n 0, 1) := by decide +kernel
theorem d1_22 : decode prog_16_method_2_code 22 = .ok (.astore 4, 2) := by decide +kernel
theorem d1_24 : decode prog_16_method_2_code 24 = .ok (.aload 4, 2) := by decide +kernel
theorem d1_26 : decode prog_16_method_2_code 26 = .ok (.arraylength, 1) := by decide +kernel
theorem d1_27 : decode prog_16_method_2_code 27 = .ok (.istore 5, 2) := by decide +kernel
theorem d1_29 : decode prog_16_method_2_code 29 = .ok (.iconst 0, 1) := by decide +kernel
theorem d1_30 : decode prog_16_method_2_code 30 = .ok (.istore 6, 2) := by decide +kernel
theorem d1_32 : decode prog_16_method_2_code 32 = .ok (.iload 6, 2) := by decide +kernel
theorem d1_34 : decode prog_16_method_2_code 34 = .ok (.iload 5, 2) := by decide +kernel
theorem d1_36 : decode prog_16_method_2_code 36 = .ok (.if_icmp .ge 57, 3) := by decide +kernel
theorem d1_39 : decode prog_16_method_2_code 39 = .ok (.aload 4, 2) := by decide +kernel
theorem d1_41 : decode prog_16_method_2_code 41 = .ok (.iload 6, 2) := by decide +kernel
theorem d1_43 : decode prog_16_method_2_code 43 = .ok (.baload, 1) := by decide +kernel
theorem d1_44 : decode prog_16_method_2_code 44 = .ok (.istore 7, 2) := by decide +kernel
theorem d1_46 : decode prog_16_method_2_code 46 = .ok (.iload_n 2, 1) := by decide +kernel
theorem d1_47 : decode prog_16_method_2_code 47 = .ok (.bipush 8, 2) := by decide +kernel
theorem d1_49 : decode prog_16_method_2_code 49 = .ok (.ishl, 1) := by decide +kernel
theorem d1_50 : decode prog_16_method_2_code 50 = .ok (.iload 7, 2) := by decide +kernel
theorem d1_52 : decode prog_16_method_2_code 52 = .ok (.sipush 255, 3) := by decide +kernel
theorem d1_55 : decode prog_16_method_2_code 55 = .ok (.iand, 1) := by decide +kernel
theorem d1_56 : decode prog_16_method_2_code 56 = .ok (.ior, 1) := by decide +kernel
theorem d1_57 : decode prog_16_method_2_code 57 = .ok (.istore_n 2, 1) := by decide +kernel
theorem d1_58 : decode prog_16_method_2_code 58 = .ok (.iinc 3 8, 3) := by decide +kernel
theorem d1_61 : decode prog_16_method_2_code 61 = .ok (.iload_n 3, 1) := by decide +kernel
theorem d1_62 : decode prog_16_method_2_code 62 = .ok (.iconst 5, 1) := by decide +kernel
theorem d1_63 : decode prog_16_method_2_code 63 = .ok (.if_icmp .lt 24, 3) := by decide +kernel
theorem d1_66 : decode prog_16_method_2_code 66 = .ok (.iinc 3 (-5), 3) := by decide +kernel
theorem d1_69 : decode prog_16_method_2_code 69 = .ok (.aload_n 1, 1) := by decide +kernel
theorem d1_70 : decode prog_16_method_2_code 70 = .ok (.getstatic 12, 3) := by decide +kernel
theorem d1_73 : decode prog_16_method_2_code 73 = .ok (.iload_n 2, 1) := by decide +kernel
theorem d1_74 : decode prog_16_method_2_code 74 = .ok (.iload_n 3, 1) := by decide +kernel
theorem d1_75 : decode prog_16_method_2_code 75 = .ok (.iushr, 1) := by decide +kernel
theorem d1_76 : decode prog_16_method_2_code 76 = .ok (.bipush 31, 2) := by decide +kernel
theorem d1_78 : decode prog_16_method_2_code 78 = .ok (.iand, 1) := by decide +kernel
theorem d1_79 : decode prog_16_method_2_code 79 = .ok (.caload, 1) := by decide +kernel
theorem d1_80 : decode prog_16_method_2_code 80 = .ok (.invokevirtual 18, 3) := by decide +kernel
theorem d1_83 : decode prog_16_method_2_code 83 = .ok (.pop, 1) := by decide +kernel
theorem d1_84 : decode prog_16_method_2_code 84 = .ok (.goto (-23), 3) := by decide +kernel
theorem d1_87 : decode prog_16_method_2_code 87 = .ok (.iinc 6 1, 3) := by decide +kernel
theorem d1_90 : decode prog_16_method_2_code 90 = .ok (.goto (-58), 3) := by decide +kernel
theorem d1_93 : decode prog_16_method_2_code 93 = .ok (.iload_n 3, 1) := by decide +kernel
theorem d1_94 : decode prog_16_method_2_code 94 = .ok (.ifCond .le 20, 3) := by decide +kernel
theorem d1_97 : decode prog_16_method_2_code 97 = .ok (.aload_n 1, 1) := by decide +kernel
theorem d1_98 : decode prog_16_method_2_code 98 = .ok (.getstatic 12, 3) := by decide +kernel
theorem d1_101 : decode prog_16_method_2_code 101 = .ok (.iload_n 2, 1) := by decide +kernel
theorem d1_102 : decode prog_16_method_2_code 102 = .ok (.iconst 5, 1) := by decide +kernel
theorem d1_103 : decode prog_16_method_2_code 103 = .ok (.iload_n 3, 1) := by decide +kernel
theorem d1_104 : decode prog_16_method_2_code 104 = .ok (.isub, 1) := by decide +kernel
theorem d1_105 : decode prog_16_method_2_code 105 = .ok (.ishl, 1) := by decide +kernel
theorem d1_106 : decode prog_16_method_2_code 106 = .ok (.bipush 31, 2) := by decide +kernel
theorem d1_108 : decode prog_16_method_2_code 108 = .ok (.iand, 1) := by decide +kernel
theorem d1_109 : decode prog_16_method_2_code 109 = .ok (.caload, 1) := by decide +kernel
theorem d1_110 : decode prog_16_method_2_code 110 = .ok (.invokevirtual 18, 3) := by decide +kernel
theorem d1_113 : decode prog_16_method_2_code 113 = .ok (.pop, 1) := by decide +kernel
theorem d1_114 : decode prog_16_method_2_code 114 = .ok (.aload_n 1, 1) := by decide +kernel
theorem d1_115 : decode prog_16_method_2_code 115 = .ok (.invokevirtual 22, 3) := by decide +kernel
theorem d1_118 : decode prog_16_method_2_code 118 = .ok (.areturn, 1) := by decide +kernel
theorem pn1 : plainFor (⟨"com/example/encase/encase/codec/Base32", "encode", "([B)Ljava/lang/String;"⟩ : MethodName) = true := plainFor_of_name (by first | (simp [plainName, overriddenIn]; done) | decide +kernel)
theorem pd1 : parseMethodDescriptor "([B)Ljava/lang/String;" = some ⟨[(.array .byte)], some (.object "java/lang/String")⟩ := by decide +kernel
set_option maxRecDepth 65536 in
set_option maxHeartbeats 40000000 in
theorem rmB (l : Launch) (Z : State) (a0 : Array Value) (hw : ∀ d ∈ tables_1, d.before a0 Z = true) (a1 sb : Addr) (Q : Option Value → Heap → Prop) (h : Heap) (n0 : Nat) (xs : List Value) (k : Nat) (bf bf2 v v2 i n xj : Int32) (x0 : Slot) (AV1 : oA .byte Z h a1 xs) (hi : i < n) (hk : i.toInt = (k : Int)) (hx : xs[k]? = some (.int xj)) (hb : own_bf bf xj = bf2) (hv : v + 8 = v2) (hx0 : x0 = .unset ∨ ∃ z, x0 = .val (.int z)) (p : Program) (e : Env) (s : State) (m : MethodId) (below : List Frame) (meth : Method) (c : Code) (T : State) (H : oH p l e ({ frames := 5, cells := 6, slots := 60, locals := 90 } : Room) s m #[.ref a1] below meth c prog_16_method_2_code 8 (⟨"com/example/encase/encase/codec/Base32", "encode", "([B)Ljava/lang/String;"⟩ : MethodName) (some (.object "java/lang/String")) Z n0 T h 2 20) (K : oG p e below s n0 6 60 (Q) (T.setTop (mkF m 61 #[.val (.ref a1), .val (.ref sb), .val (.int bf2), .val (.int v2), .val (.ref a1), .val (.int n), .val (.int i), .val (.int xj)] []))) :
    oG p e below s n0 6 60 (Q) (T.setTop (mkF m 32 #[.val (.ref a1), .val (.ref sb), .val (.int bf), .val (.int v), .val (.ref a1), .val (.int n), .val (.int i), x0] [])) := by
  refine o_iload H rfl d1_32 rfl ?_
  refine o_iload H rfl d1_34 rfl ?_
  refine o_icmp_f H d1_36 (XT.ii_ge_f hi) rfl ?_
  refine o_aload H rfl rfl d1_39 rfl ?_
  refine o_iload H rfl d1_41 rfl ?_
  refine o_baload H k (.int xj) AV1 hk hx d1_43 rfl ?_
  refine o_istore H (L' := #[.val (.ref a1), .val (.ref sb), .val (.int bf), .val (.int v), .val (.ref a1), .val (.int n), .val (.int i), .val (.int xj)]) (o_one rfl hx0 rfl) d1_44 rfl ?_
  refine o_iloadN H rfl d1_46 rfl ?_
  refine o_bipush H (8 : Int32) rfl d1_47 rfl ?_
  refine o_ishl H d1_49 rfl ?_
  refine o_iload H rfl d1_50 rfl ?_
  refine o_sipush H (255 : Int32) rfl d1_52 rfl ?_
  refine o_iand H d1_55 rfl ?_
  refine o_ior H d1_56 rfl ?_
  refine o_istoreN H (L' := #[.val (.ref a1), .val (.ref sb), .val (.int ((bf <<< ((8 : Int32) &&& 31)) ||| (xj &&& (255 : Int32)))), .val (.int v), .val (.ref a1), .val (.int n), .val (.int i), .val (.int xj)]) rfl d1_57 rfl ?_
  rw [show ((bf <<< ((8 : Int32) &&& 31)) ||| (xj &&& (255 : Int32))) = bf2 from hb]
  refine o_iinc H (8 : Int32) v2 rfl hv rfl (L' := #[.val (.ref a1), .val (.ref sb), .val (.int bf2), .val (.int v2), .val (.ref a1), .val (.int n), .val (.int i), .val (.int xj)]) rfl d1_58 rfl ?_
  exact K
set_option maxRecDepth 65536 in
set_option maxHeartbeats 40000000 in
theorem rmE (l : Launch) (Z : State) (a0 : Array Value) (hw : ∀ d ∈ tables_1, d.before a0 Z = true) (a1 sb : Addr) (Q : Option Value → Heap → Prop) (h : Heap) (n0 : Nat) (bf v i i2 n : Int32) (x0 : Slot) (hv : v < 5) (hi : i + 1 = i2) (p : Program) (e : Env) (s : State) (m : MethodId) (below : List Frame) (meth : Method) (c : Code) (T : State) (H : oH p l e ({ frames := 5, cells := 6, slots := 60, locals := 90 } : Room) s m #[.ref a1] below meth c prog_16_method_2_code 8 (⟨"com/example/encase/encase/codec/Base32", "encode", "([B)Ljava/lang/String;"⟩ : MethodName) (some (.object "java/lang/String")) Z n0 T h 2 20) (K : oG p e below s n0 6 60 (Q) (T.setTop (mkF m 32 #[.val (.ref a1), .val (.ref sb), .val (.int bf), .val (.int v), .val (.ref a1), .val (.int n), .val (.int i2), x0] []))) :
    oG p e below s n0 6 60 (Q) (T.setTop (mkF m 61 #[.val (.ref a1), .val (.ref sb), .val (.int bf), .val (.int v), .val (.ref a1), .val (.int n), .val (.int i), x0] [])) := by
  refine o_iloadN H rfl d1_61 rfl ?_
  refine o_iconst H (5 : Int32) rfl d1_62 rfl ?_
  refine o_icmp_t H d1_63 (XT.ii_lt_t hv) (pt := 87) (by decide) (by decide) ?_
  refine o_iinc H (1 : Int32) i2 rfl hi rfl (L' := #[.val (.ref a1), .val (.ref sb), .val (.int bf), .val (.int v), .val (.ref a1), .val (.int n), .val (.int i2), x0]) rfl d1_87 rfl ?_
  refine o_goto H d1_90 (pt := 32) (by decide) (by decide) ?_
  exact K
set_option maxRecDepth 65536 in
set_option maxHeartbeats 40000000 in
theorem rmC (l : Launch) (Z : State) (a0 : Array Value) (hw : ∀ d ∈ tables_1, d.before a0 Z = true) (a1 sb vb al : Addr) (Q : Option Value → Heap → Prop) (h0 : Heap) (n0 : Nat) (bf v v2 i n q1 q2 cs : Int32) (vs vs2 : List Value) (j : Nat) (x0 : Slot) (hv : ¬ v < 5) (hv2 : v + -5 = v2) (E_sb : Exa Z h0 sb "java/lang/StringBuilder") (g_sb : n0 ≤ sb) (F_value_sb : Fld Z h0 sb "java/lang/AbstractStringBuilder" "value" "[B" (.ref vb)) (F_coder_sb : Fld Z h0 sb "java/lang/AbstractStringBuilder" "coder" "B" (.int (0 : Int32))) (F_count_sb : Fld Z h0 sb "java/lang/AbstractStringBuilder" "count" "I" (.int q1)) (AV : oA .byte Z h0 vb vs) (g_vb : n0 ≤ vb) (nab : sb ≠ vb) (hq : q1.toInt = (j : Int)) (hj : j < vs.length) (hcap : vs.length ≤ 16) (hq2 : q1 + 1 = q2) (hvs : vs.set j (own_en bf v2) = vs2) (S_a : Sta Z h0 "com/example/encase/encase/codec/Base32" "ALPHABET" "[C" (.ref al)) (AL : oA .char Z h0 al own_alist) (S_c : Sta Z h0 "java/lang/String" "COMPACT_STRINGS" "Z" (.int cs)) (hcs : ¬ cs = 0) (p : Program) (e : Env) (s : State) (m : MethodId) (below : List Frame) (meth : Method) (c : Code) (T : State) (H : oH p l e ({ frames := 5, cells := 6, slots := 60, locals := 90 } : Room) s m #[.ref a1] below meth c prog_16_method_2_code 8 (⟨"com/example/encase/encase/codec/Base32", "encode", "([B)Ljava/lang/String;"⟩ : MethodName) (some (.object "java/lang/String")) Z n0 T h0 2 20) (K : ∀ (T' : State) (h : Heap), oH p l e ({ frames := 5, cells := 6, slots := 60, locals := 90 } : Room) s m #[.ref a1] below meth c prog_16_method_2_code 8 (⟨"com/example/encase/encase/codec/Base32", "encode", "([B)Ljava/lang/String;"⟩ : MethodName) (some (.object "java/lang/String")) Z n0 T' h 2 20 → Keep h0 h [sb, vb] → Fld Z h sb "java/lang/AbstractStringBuilder" "value" "[B" (.ref vb) → Fld Z h sb "java/lang/AbstractStringBuilder" "coder" "B" (.int 0) → Fld Z h sb "java/lang/AbstractStringBuilder" "count" "I" (.int q2) → oA .byte Z h vb vs2 → oG p e below s n0 6 60 (Q) (T'.setTop (mkF m 61 #[.val (.ref a1), .val (.ref sb), .val (.int bf), .val (.int v2), .val (.ref a1), .val (.int n), .val (.int i), x0] []))) :
    oG p e below s n0 6 60 (Q) (T.setTop (mkF m 61 #[.val (.ref a1), .val (.ref sb), .val (.int bf), .val (.int v), .val (.ref a1), .val (.int n), .val (.int i), x0] [])) := by
  refine o_iloadN H rfl d1_61 rfl ?_
  refine o_iconst H (5 : Int32) rfl d1_62 rfl ?_
  refine o_icmp_f H d1_63 (XT.ii_lt_f hv) rfl ?_
  refine o_iinc H (-5 : Int32) v2 rfl hv2 rfl (L' := #[.val (.ref a1), .val (.ref sb), .val (.int bf), .val (.int v2), .val (.ref a1), .val (.int n), .val (.int i), x0]) rfl d1_66 rfl ?_
  refine o_aloadN H rfl rfl d1_69 rfl ?_
  refine o_getS H (host := "") (Or.inl (w115 hw)) S_a d1_70 rfl ?_
  intro T1 H2
  refine o_iloadN H2 rfl d1_73 rfl ?_
  refine o_iloadN H2 rfl d1_74 rfl ?_
  refine o_iushr H2 d1_75 rfl ?_
  refine o_bipush H2 (31 : Int32) rfl d1_76 rfl ?_
  refine o_iand H2 d1_78 rfl ?_
  refine o_caload H2 ((((XT.ushr bf v2) &&& (31 : Int32))).toInt.toNat) (.int (own_al ((XT.ushr bf v2) &&& (31 : Int32)))) AL (own_ix1 (XT.ushr bf v2)) (own_ix2 (XT.ushr bf v2)) d1_79 rfl ?_
  refine o_virtual H2 [(.int (own_al ((XT.ushr bf v2) &&& (31 : Int32))))] [] (rm21 l Z a0 hw sb (own_al ((XT.ushr bf v2) &&& (31 : Int32))) vb vs q1 j cs h0 n0 H2.le E_sb g_sb F_value_sb F_coder_sb F_count_sb AV g_vb nab hq hj hcap (own_al255 _) S_c hcs) E_sb (w117 hw) (w118 hw) (o_nf (w120 hw)) (w120 hw) (w119 hw) (w8 hw) (w121 hw) (by decide) (lenOf pd21 rfl) rfl rfl (by decide) (Nat.le_of_ble_eq_true rfl) (by decide) (by decide) d1_80 rfl ?_
  intro T3 v3 h3 H3 q3
  obtain ⟨rfl, K3, FV3, FC3, FN3, A3⟩ := q3
  have k4 := (Keep.refl h0 [sb, vb]).trans K3 (allS (Or.inl (by simp)) (allS (Or.inl (by simp)) all0))
  have f5 := E_sb.keep K3
  show oG p e below s n0 _ _ _ (T3.setTop (mkF m 83 #[.val (.ref a1), .val (.ref sb), .val (.int bf), .val (.int v2), .val (.ref a1), .val (.int n), .val (.int i), x0] [(.ref sb)]))
  subst hq2 hvs
  refine o_pop H3 rfl d1_83 rfl ?_
  refine o_goto H3 d1_84 (pt := 61) (by decide) (by decide) ?_
  exact K _ _ H3 K3 FV3 FC3 FN3 A3
set_option maxRecDepth 65536 in
set_option maxHeartbeats 40000000 in
theorem rm1_0 (l : Launch) (Z : State) (a0 : Array Value) (hw : ∀ d ∈ tables_1, d.before a0 Z = true) (a1 : Addr) (al : Addr) (cs : Int32) (h0 : Heap) (n0 : Nat) (Z0 : n0 ≤ h0.size) (AV1 : oA .byte Z h0 a1 []) (S_a : Sta Z h0 "com/example/encase/encase/codec/Base32" "ALPHABET" "[C" (.ref al)) (AL : oA .char Z h0 al own_alist) (S_c : Sta Z h0 "java/lang/String" "COMPACT_STRINGS" "Z" (.int cs)) (hcs : ¬ cs = 0) :
    oC l Z n0 (⟨"com/example/encase/encase/codec/Base32", "encode", "([B)Ljava/lang/String;"⟩ : MethodName) prog_16_method_2_code 8 (some (.object "java/lang/String")) ({ frames := 5, cells := 6, slots := 60, locals := 90 } : Room) 6 60 #[(.ref a1)] h0 (fun v h => ∃ r b, v = some (.ref r) ∧ Keep h0 h [] ∧ Exa Z h r "java/lang/String" ∧ Fld Z h r "java/lang/String" "coder" "B" (.int 0) ∧ Fld Z h r "java/lang/String" "value" "[B" (.ref b) ∧ oA .byte Z h b (own_enc_0 )) := by
  refine oC.of (L := #[.val (.ref a1), .unset, .unset, .unset, .unset, .unset, .unset, .unset]) pn1 Z0 (fun m => by first | (simp [entryFrame, mkF, argsToLocals, Value.category]; done) | rfl) ?_
  intro p e s m below meth c T H
  refine o_new H (w6 hw) (w7 hw) (w8 hw) d1_0 rfl (by decide) (by decide) ?_
  intro T1 h1 b1 g1 H1 E1 A1 D1
  have ne1_al : al ≠ b1 := by rw [g1]; exact Nat.ne_of_lt ((AL.ext (o_kext (Keep.refl h0 [])))).lt
  have ne1_a1 : a1 ≠ b1 := by rw [g1]; exact Nat.ne_of_lt ((AV1.ext (o_kext (Keep.refl h0 [])))).lt
  have z1 : n0 ≤ b1 := by rw [g1]; exact H.le
  have y1 : h0.size ≤ b1 := by rw [g1]; exact (Keep.refl h0 []).1
  have k2 := (Keep.refl h0 []).ext E1
  have f3 : Fld Z h1 b1 "java/lang/AbstractStringBuilder" "value" "[B" .null := D1 (Or.inl (w24 hw)) (ty := (.array .byte)) (by decide)
  have f4 : Fld Z h1 b1 "java/lang/AbstractStringBuilder" "coder" "B" (.int (0 : Int32)) := D1 (Or.inl (w26 hw)) (ty := .byte) (by decide)
  have f5 : Fld Z h1 b1 "java/lang/AbstractStringBuilder" "count" "I" (.int (0 : Int32)) := D1 (Or.inl (w57 hw)) (ty := .int) (by decide)
  refine o_dup H1 rfl d1_3 rfl ?_
  refine o_aloadN H1 rfl rfl d1_4 rfl ?_
  refine o_arraylength H1 (0 : Int32) (AV1.ext (o_kext k2)) rfl d1_5 rfl ?_
  refine o_bipush H1 (8 : Int32) rfl d1_6 rfl ?_
  refine o_imul H1 d1_8 rfl ?_
  refine o_fold (0 : Int32) (by decide) ?_
  refine o_iconst H1 (4 : Int32) rfl d1_9 rfl ?_
  refine o_iadd H1 d1_10 rfl ?_
  refine o_fold (4 : Int32) (by decide) ?_
  refine o_iconst H1 (5 : Int32) rfl d1_11 rfl ?_
  refine o_idiv H1 (by decide) d1_12 rfl ?_
  refine o_fold (0 : Int32) (by decide) ?_
  refine o_special H1 [(.int (0 : Int32))] [(.ref b1)] (rm2 l Z a0 hw b1 (0 : Int32) 0 cs h1 n0 H1.le A1 z1 f3 f4 f5 (by decide) (by decide) (S_c.ext (o_kext k2)) hcs) rfl (w9 hw) (w10 hw) (w8 hw) (w11 hw) (by decide) (lenOf pd2 rfl) rfl rfl (by decide) (Nat.le_of_ble_eq_true rfl) (by decide) (by decide) d1_13 rfl ?_
  intro T6 v6 h6 H6 q6
  obtain ⟨rfl, b6, K6, FV6, FC6, FN6, A6, X6, z6, y06, ne6⟩ := q6
  have k7 := k2.trans K6 (allS (Or.inr y1) all0)
  have f8 := A1.keep K6
  have y6 : h0.size ≤ b6 := Nat.le_trans (k2).1 y06
  have AA6 : oA .byte Z h6 b6 [] := A6
  show oG p e below s n0 _ _ _ (T6.setTop (mkF m 16 #[.val (.ref a1), .unset, .unset, .unset, .unset, .unset, .unset, .unset] [(.ref b1)]))
  refine o_astoreN H6 (L' := #[.val (.ref a1), .val (.ref b1), .unset, .unset, .unset, .unset, .unset, .unset]) rfl rfl d1_16 rfl ?_
  refine o_iconst H6 (0 : Int32) rfl d1_17 rfl ?_
  refine o_istoreN H6 (L' := #[.val (.ref a1), .val (.ref b1), .val (.int (0 : Int32)), .unset, .unset, .unset, .unset, .unset]) rfl d1_18 rfl ?_
  refine o_iconst H6 (0 : Int32) rfl d1_19 rfl ?_
  refine o_istoreN H6 (L' := #[.val (.ref a1), .val (.ref b1), .val (.int (0 : Int32)), .val (.int (0 : Int32)), .unset, .unset, .unset, .unset]) rfl d1_20 rfl ?_
  refine o_aloadN H6 rfl rfl d1_21 rfl ?_
  refine o_astore H6 (L' := #[.val (.ref a1), .val (.ref b1), .val (.int (0 : Int32)), .val (.int (0 : Int32)), .val (.ref a1), .unset, .unset, .unset]) rfl rfl d1_22 rfl ?_
  refine o_aload H6 rfl rfl d1_24 rfl ?_
  refine o_arraylength H6 (0 : Int32) (AV1.ext (o_kext k7)) rfl d1_26 rfl ?_
  refine o_istore H6 (L' := #[.val (.ref a1), .val (.ref b1), .val (.int (0 : Int32)), .val (.int (0 : Int32)), .val (.ref a1), .val (.int (0 : Int32)), .unset, .unset]) rfl d1_27 rfl ?_
  refine o_iconst H6 (0 : Int32) rfl d1_29 rfl ?_
  refine o_istore H6 (L' := #[.val (.ref a1), .val (.ref b1), .val (.int (0 : Int32)), .val (.int (0 : Int32)), .val (.ref a1), .val (.int (0 : Int32)), .val (.int (0 : Int32)), .unset]) rfl d1_30 rfl ?_
  refine o_iload H6 rfl d1_32 rfl ?_
  refine o_iload H6 rfl d1_34 rfl ?_
  refine o_icmp_t H6 d1_36 (by decide) (pt := 93) (by decide) (by decide) ?_
  refine o_iloadN H6 rfl d1_93 rfl ?_
  refine o_if_t H6 d1_94 (by decide) (pt := 114) (by decide) (by decide) ?_
  have OF : oFit .byte [] := by
    intro v hv
    exact nomatch hv
  refine o_aloadN H6 rfl rfl d1_114 rfl ?_
  refine o_virtual H6 [] [] (rm5 l Z a0 hw b1 b6 [] (0 : Int32) cs h6 n0 H6.le f8 FV6 FC6 FN6 AA6 X6 OF rfl (Nat.le_of_ble_eq_true rfl) (S_c.ext (o_kext k7)) hcs) f8 (w27 hw) (w28 hw) (o_nf (w30 hw)) (w30 hw) (w29 hw) (w8 hw) (w31 hw) (by decide) (lenOf pd5 rfl) rfl rfl (by decide) (Nat.le_of_ble_eq_true rfl) (by decide) (by decide) d1_115 rfl ?_
  intro T9 v9 h9 H9 q9
  obtain ⟨r9, b9, rfl, K9, X9, FC9, FV9, A9⟩ := q9
  have k10 := k7.trans K9 all0
  show oG p e below s n0 _ _ _ (T9.setTop (mkF m 118 #[.val (.ref a1), .val (.ref b1), .val (.int (0 : Int32)), .val (.int (0 : Int32)), .val (.ref a1), .val (.int (0 : Int32)), .val (.int (0 : Int32)), .unset] [(.ref r9)]))
  have fin : oA .byte Z h9 b9 (own_enc_0 ) := by
    have q := A9
    exact q
  exact o_areturn H9 rfl rfl rfl rfl d1_118 (by decide) (by decide) ⟨_, _, rfl, k10, X9, FC9, FV9, fin⟩
set_option maxRecDepth 65536 in
set_option maxHeartbeats 40000000 in
theorem rm1_1 (l : Launch) (Z : State) (a0 : Array Value) (hw : ∀ d ∈ tables_1, d.before a0 Z = true) (a1 : Addr) (al : Addr) (cs : Int32) (x0 : Int32) (h0 : Heap) (n0 : Nat) (Z0 : n0 ≤ h0.size) (AV1 : oA .byte Z h0 a1 [(.int x0)]) (S_a : Sta Z h0 "com/example/encase/encase/codec/Base32" "ALPHABET" "[C" (.ref al)) (AL : oA .char Z h0 al own_alist) (S_c : Sta Z h0 "java/lang/String" "COMPACT_STRINGS" "Z" (.int cs)) (hcs : ¬ cs = 0) :
    oC l Z n0 (⟨"com/example/encase/encase/codec/Base32", "encode", "([B)Ljava/lang/String;"⟩ : MethodName) prog_16_method_2_code 8 (some (.object "java/lang/String")) ({ frames := 5, cells := 6, slots := 60, locals := 90 } : Room) 6 60 #[(.ref a1)] h0 (fun v h => ∃ r b, v = some (.ref r) ∧ Keep h0 h [] ∧ Exa Z h r "java/lang/String" ∧ Fld Z h r "java/lang/String" "coder" "B" (.int 0) ∧ Fld Z h r "java/lang/String" "value" "[B" (.ref b) ∧ oA .byte Z h b (own_enc_1 x0)) := by
  refine oC.of (L := #[.val (.ref a1), .unset, .unset, .unset, .unset, .unset, .unset, .unset]) pn1 Z0 (fun m => by first | (simp [entryFrame, mkF, argsToLocals, Value.category]; done) | rfl) ?_
  intro p e s m below meth c T H
  refine o_new H (w6 hw) (w7 hw) (w8 hw) d1_0 rfl (by decide) (by decide) ?_
  intro T1 h1 b1 g1 H1 E1 A1 D1
  have ne1_al : al ≠ b1 := by rw [g1]; exact Nat.ne_of_lt ((AL.ext (o_kext (Keep.refl h0 [])))).lt
  have ne1_a1 : a1 ≠ b1 := by rw [g1]; exact Nat.ne_of_lt ((AV1.ext (o_kext (Keep.refl h0 [])))).lt
  have z1 : n0 ≤ b1 := by rw [g1]; exact H.le
  have y1 : h0.size ≤ b1 := by rw [g1]; exact (Keep.refl h0 []).1
  have k2 := (Keep.refl h0 []).ext E1
  have f3 : Fld Z h1 b1 "java/lang/AbstractStringBuilder" "value" "[B" .null := D1 (Or.inl (w24 hw)) (ty := (.array .byte)) (by decide)
  have f4 : Fld Z h1 b1 "java/lang/AbstractStringBuilder" "coder" "B" (.int (0 : Int32)) := D1 (Or.inl (w26 hw)) (ty := .byte) (by decide)
  have f5 : Fld Z h1 b1 "java/lang/AbstractStringBuilder" "count" "I" (.int (0 : Int32)) := D1 (Or.inl (w57 hw)) (ty := .int) (by decide)
  refine o_dup H1 rfl d1_3 rfl ?_
  refine o_aloadN H1 rfl rfl d1_4 rfl ?_
  refine o_arraylength H1 (1 : Int32) (AV1.ext (o_kext k2)) rfl d1_5 rfl ?_
  refine o_bipush H1 (8 : Int32) rfl d1_6 rfl ?_
  refine o_imul H1 d1_8 rfl ?_
  refine o_fold (8 : Int32) (by decide) ?_
  refine o_iconst H1 (4 : Int32) rfl d1_9 rfl ?_
  refine o_iadd H1 d1_10 rfl ?_
  refine o_fold (12 : Int32) (by decide) ?_
  refine o_iconst H1 (5 : Int32) rfl d1_11 rfl ?_
  refine o_idiv H1 (by decide) d1_12 rfl ?_
  refine o_fold (2 : Int32) (by decide) ?_
  refine o_special H1 [(.int (2 : Int32))] [(.ref b1)] (rm2 l Z a0 hw b1 (2 : Int32) 2 cs h1 n0 H1.le A1 z1 f3 f4 f5 (by decide) (by decide) (S_c.ext (o_kext k2)) hcs) rfl (w9 hw) (w10 hw) (w8 hw) (w11 hw) (by decide) (lenOf pd2 rfl) rfl rfl (by decide) (Nat.le_of_ble_eq_true rfl) (by decide) (by decide) d1_13 rfl ?_
  intro T6 v6 h6 H6 q6
  obtain ⟨rfl, b6, K6, FV6, FC6, FN6, A6, X6, z6, y06, ne6⟩ := q6
  have k7 := k2.trans K6 (allS (Or.inr y1) all0)
  have f8 := A1.keep K6
  have y6 : h0.size ≤ b6 := Nat.le_trans (k2).1 y06
  have AA6 : oA .byte Z h6 b6 [(.int 0), (.int 0)] := A6
  show oG p e below s n0 _ _ _ (T6.setTop (mkF m 16 #[.val (.ref a1), .unset, .unset, .unset, .unset, .unset, .unset, .unset] [(.ref b1)]))
  refine o_astoreN H6 (L' := #[.val (.ref a1), .val (.ref b1), .unset, .unset, .unset, .unset, .unset, .unset]) rfl rfl d1_16 rfl ?_
  refine o_iconst H6 (0 : Int32) rfl d1_17 rfl ?_
  refine o_istoreN H6 (L' := #[.val (.ref a1), .val (.ref b1), .val (.int (0 : Int32)), .unset, .unset, .unset, .unset, .unset]) rfl d1_18 rfl ?_
  refine o_iconst H6 (0 : Int32) rfl d1_19 rfl ?_
  refine o_istoreN H6 (L' := #[.val (.ref a1), .val (.ref b1), .val (.int (0 : Int32)), .val (.int (0 : Int32)), .unset, .unset, .unset, .unset]) rfl d1_20 rfl ?_
  refine o_aloadN H6 rfl rfl d1_21 rfl ?_
  refine o_astore H6 (L' := #[.val (.ref a1), .val (.ref b1), .val (.int (0 : Int32)), .val (.int (0 : Int32)), .val (.ref a1), .unset, .unset, .unset]) rfl rfl d1_22 rfl ?_
  refine o_aload H6 rfl rfl d1_24 rfl ?_
  refine o_arraylength H6 (1 : Int32) (AV1.ext (o_kext k7)) rfl d1_26 rfl ?_
  refine o_istore H6 (L' := #[.val (.ref a1), .val (.ref b1), .val (.int (0 : Int32)), .val (.int (0 : Int32)), .val (.ref a1), .val (.int (1 : Int32)), .unset, .unset]) rfl d1_27 rfl ?_
  refine o_iconst H6 (0 : Int32) rfl d1_29 rfl ?_
  refine o_istore H6 (L' := #[.val (.ref a1), .val (.ref b1), .val (.int (0 : Int32)), .val (.int (0 : Int32)), .val (.ref a1), .val (.int (1 : Int32)), .val (.int (0 : Int32)), .unset]) rfl d1_30 rfl ?_
  obtain ⟨bf0, e_bf0⟩ : ∃ z : Int32, z = own_bf (0 : Int32) x0 := ⟨_, rfl⟩
  refine rmB l Z a0 hw a1 b1 _ h6 n0 _ 0 (0 : Int32) bf0 (0 : Int32) (8 : Int32) (0 : Int32) (1 : Int32) x0 _ (AV1.ext (o_kext k7)) (by decide) (by decide) rfl e_bf0.symm (by decide) (Or.inl rfl) p e s m below meth c T6 H6 ?_
  refine rmC l Z a0 hw a1 b1 b6 al _ h6 n0 bf0 (8 : Int32) (3 : Int32) (0 : Int32) (1 : Int32) (0 : Int32) (1 : Int32) cs [(.int 0), (.int 0)] [(own_en bf0 3), (.int 0)] 0 _ (by decide) (by decide) f8 z1 FV6 FC6 FN6 AA6 z6 ne6 (by decide) (Nat.le_of_ble_eq_true rfl) (Nat.le_of_ble_eq_true rfl) (by decide) rfl (S_a.ext (o_kext k7)) (AL.ext (o_kext k7)) (S_c.ext (o_kext k7)) hcs p e s m below meth c T6 H6 ?_
  intro T9 h9 H9 K9 FV9 FC9 FN9 A9
  have k10 := k7.trans K9 (allS (Or.inr y1) (allS (Or.inr y6) all0))
  have f11 := f8.keep K9
  have f12 := X6.keep K9
  refine rmE l Z a0 hw a1 b1 _ h9 n0 bf0 (3 : Int32) (0 : Int32) (1 : Int32) (1 : Int32) _ (by decide) (by decide) p e s m below meth c T9 H9 ?_
  refine o_iload H9 rfl d1_32 rfl ?_
  refine o_iload H9 rfl d1_34 rfl ?_
  refine o_icmp_t H9 d1_36 (by decide) (pt := 93) (by decide) (by decide) ?_
  refine o_iloadN H9 rfl d1_93 rfl ?_
  refine o_if_f H9 d1_94 (by decide) rfl ?_
  refine o_aloadN H9 rfl rfl d1_97 rfl ?_
  refine o_getS H9 (host := "") (Or.inl (w115 hw)) (S_a.ext (o_kext k10)) d1_98 rfl ?_
  intro T13 H14
  refine o_iloadN H14 rfl d1_101 rfl ?_
  refine o_iconst H14 (5 : Int32) rfl d1_102 rfl ?_
  refine o_iloadN H14 rfl d1_103 rfl ?_
  refine o_isub H14 d1_104 rfl ?_
  refine o_fold (2 : Int32) (by decide) ?_
  refine o_ishl H14 d1_105 rfl ?_
  refine o_bipush H14 (31 : Int32) rfl d1_106 rfl ?_
  refine o_iand H14 d1_108 rfl ?_
  refine o_caload H14 ((((bf0 <<< ((2 : Int32) &&& 31)) &&& (31 : Int32))).toInt.toNat) (.int (own_al ((bf0 <<< ((2 : Int32) &&& 31)) &&& (31 : Int32)))) (AL.ext (o_kext k10)) (own_ix1 (bf0 <<< ((2 : Int32) &&& 31))) (own_ix2 (bf0 <<< ((2 : Int32) &&& 31))) d1_109 rfl ?_
  obtain ⟨ch1, e_ch1⟩ : ∃ z : Int32, z = (own_al ((bf0 <<< ((2 : Int32) &&& 31)) &&& (31 : Int32))) := ⟨_, rfl⟩
  rw [← e_ch1]
  have hc_ch1 : ¬ 255 < ch1 := by rw [e_ch1]; exact own_al255 _
  refine o_virtual H14 [(.int ch1)] [] (rm21 l Z a0 hw b1 ch1 b6 [(own_en bf0 3), (.int 0)] (1 : Int32) 1 cs h9 n0 H14.le f11 z1 FV9 FC9 FN9 A9 z6 ne6 (by decide) (Nat.le_of_ble_eq_true rfl) (Nat.le_of_ble_eq_true rfl) hc_ch1 (S_c.ext (o_kext k10)) hcs) f11 (w117 hw) (w118 hw) (o_nf (w120 hw)) (w120 hw) (w119 hw) (w8 hw) (w121 hw) (by decide) (lenOf pd21 rfl) rfl rfl (by decide) (Nat.le_of_ble_eq_true rfl) (by decide) (by decide) d1_110 rfl ?_
  intro T15 v15 h15 H15 q15
  obtain ⟨rfl, K15, FV15, FC15, FN15, A15⟩ := q15
  have k16 := k10.trans K15 (allS (Or.inr y1) (allS (Or.inr y6) all0))
  have f17 := f11.keep K15
  have f18 := f12.keep K15
  have FO15 : Fld Z h15 b1 "java/lang/AbstractStringBuilder" "count" "I" (.int (2 : Int32)) := FN15
  have AO15 : oA .byte Z h15 b6 [(own_en bf0 3), (.int (nar .byte ch1.toInt8.toInt32))] := A15
  show oG p e below s n0 _ _ _ (T15.setTop (mkF m 113 #[.val (.ref a1), .val (.ref b1), .val (.int bf0), .val (.int (3 : Int32)), .val (.ref a1), .val (.int (1 : Int32)), .val (.int (1 : Int32)), .val (.int x0)] [(.ref b1)]))
  refine o_pop H15 rfl d1_113 rfl ?_
  have OF : oFit .byte [(own_en bf0 3), (.int (nar .byte ch1.toInt8.toInt32))] := by
    intro v hv
    simp only [List.mem_cons, List.not_mem_nil, or_false] at hv
    rcases hv with rfl | rfl <;> exact fits_nar_byte _
  refine o_aloadN H15 rfl rfl d1_114 rfl ?_
  refine o_virtual H15 [] [] (rm5 l Z a0 hw b1 b6 [(own_en bf0 3), (.int (nar .byte ch1.toInt8.toInt32))] (2 : Int32) cs h15 n0 H15.le f17 FV15 FC15 FO15 AO15 f18 OF rfl (Nat.le_of_ble_eq_true rfl) (S_c.ext (o_kext k16)) hcs) f17 (w27 hw) (w28 hw) (o_nf (w30 hw)) (w30 hw) (w29 hw) (w8 hw) (w31 hw) (by decide) (lenOf pd5 rfl) rfl rfl (by decide) (Nat.le_of_ble_eq_true rfl) (by decide) (by decide) d1_115 rfl ?_
  intro T19 v19 h19 H19 q19
  obtain ⟨r19, b19, rfl, K19, X19, FC19, FV19, A19⟩ := q19
  have k20 := k16.trans K19 all0
  show oG p e below s n0 _ _ _ (T19.setTop (mkF m 118 #[.val (.ref a1), .val (.ref b1), .val (.int bf0), .val (.int (3 : Int32)), .val (.ref a1), .val (.int (1 : Int32)), .val (.int (1 : Int32)), .val (.int x0)] [(.ref r19)]))
  have fin : oA .byte Z h19 b19 (own_enc_1 x0) := by
    have q := A19
    subst e_ch1
    subst e_bf0
    exact q
  exact o_areturn H19 rfl rfl rfl rfl d1_118 (by decide) (by decide) ⟨_, _, rfl, k20, X19, FC19, FV19, fin⟩
set_option maxRecDepth 65536 in
set_option maxHeartbeats 40000000 in
theorem rm1_2 (l : Launch) (Z : State) (a0 : Array Value) (hw : ∀ d ∈ tables_1, d.before a0 Z = true) (a1 : Addr) (al : Addr) (cs : Int32) (x0 x1 : Int32) (h0 : Heap) (n0 : Nat) (Z0 : n0 ≤ h0.size) (AV1 : oA .byte Z h0 a1 [(.int x0), (.int x1)]) (S_a : Sta Z h0 "com/example/encase/encase/codec/Base32" "ALPHABET" "[C" (.ref al)) (AL : oA .char Z h0 al own_alist) (S_c : Sta Z h0 "java/lang/String" "COMPACT_STRINGS" "Z" (.int cs)) (hcs : ¬ cs = 0) :
    oC l Z n0 (⟨"com/example/encase/encase/codec/Base32", "encode", "([B)Ljava/lang/String;"⟩ : MethodName) prog_16_method_2_code 8 (some (.object "java/lang/String")) ({ frames := 5, cells := 6, slots := 60, locals := 90 } : Room) 6 60 #[(.ref a1)] h0 (fun v h => ∃ r b, v = some (.ref r) ∧ Keep h0 h [] ∧ Exa Z h r "java/lang/String" ∧ Fld Z h r "java/lang/String" "coder" "B" (.int 0) ∧ Fld Z h r "java/lang/String" "value" "[B" (.ref b) ∧ oA .byte Z h b (own_enc_2 x0 x1)) := by
  refine oC.of (L := #[.val (.ref a1), .unset, .unset, .unset, .unset, .unset, .unset, .unset]) pn1 Z0 (fun m => by first | (simp [entryFrame, mkF, argsToLocals, Value.category]; done) | rfl) ?_
  intro p e s m below meth c T H
  refine o_new H (w6 hw) (w7 hw) (w8 hw) d1_0 rfl (by decide) (by decide) ?_
  intro T1 h1 b1 g1 H1 E1 A1 D1
  have ne1_al : al ≠ b1 := by rw [g1]; exact Nat.ne_of_lt ((AL.ext (o_kext (Keep.refl h0 [])))).lt
  have ne1_a1 : a1 ≠ b1 := by rw [g1]; exact Nat.ne_of_lt ((AV1.ext (o_kext (Keep.refl h0 [])))).lt
  have z1 : n0 ≤ b1 := by rw [g1]; exact H.le
  have y1 : h0.size ≤ b1 := by rw [g1]; exact (Keep.refl h0 []).1
  have k2 := (Keep.refl h0 []).ext E1
  have f3 : Fld Z h1 b1 "java/lang/AbstractStringBuilder" "value" "[B" .null := D1 (Or.inl (w24 hw)) (ty := (.array .byte)) (by decide)
  have f4 : Fld Z h1 b1 "java/lang/AbstractStringBuilder" "coder" "B" (.int (0 : Int32)) := D1 (Or.inl (w26 hw)) (ty := .byte) (by decide)
  have f5 : Fld Z h1 b1 "java/lang/AbstractStringBuilder" "count" "I" (.int (0 : Int32)) := D1 (Or.inl (w57 hw)) (ty := .int) (by decide)
  refine o_dup H1 rfl d1_3 rfl ?_
  refine o_aloadN H1 rfl rfl d1_4 rfl ?_
  refine o_arraylength H1 (2 : Int32) (AV1.ext (o_kext k2)) rfl d1_5 rfl ?_
  refine o_bipush H1 (8 : Int32) rfl d1_6 rfl ?_
  refine o_imul H1 d1_8 rfl ?_
  refine o_fold (16 : Int32) (by decide) ?_
  refine o_iconst H1 (4 : Int32) rfl d1_9 rfl ?_
  refine o_iadd H1 d1_10 rfl ?_
  refine o_fold (20 : Int32) (by decide) ?_
  refine o_iconst H1 (5 : Int32) rfl d1_11 rfl ?_
  refine o_idiv H1 (by decide) d1_12 rfl ?_
  refine o_fold (4 : Int32) (by decide) ?_
  refine o_special H1 [(.int (4 : Int32))] [(.ref b1)] (rm2 l Z a0 hw b1 (4 : Int32) 4 cs h1 n0 H1.le A1 z1 f3 f4 f5 (by decide) (by decide) (S_c.ext (o_kext k2)) hcs) rfl (w9 hw) (w10 hw) (w8 hw) (w11 hw) (by decide) (lenOf pd2 rfl) rfl rfl (by decide) (Nat.le_of_ble_eq_true rfl) (by decide) (by decide) d1_13 rfl ?_
  intro T6 v6 h6 H6 q6
  obtain ⟨rfl, b6, K6, FV6, FC6, FN6, A6, X6, z6, y06, ne6⟩ := q6
  have k7 := k2.trans K6 (allS (Or.inr y1) all0)
  have f8 := A1.keep K6
  have y6 : h0.size ≤ b6 := Nat.le_trans (k2).1 y06
  have AA6 : oA .byte Z h6 b6 [(.int 0), (.int 0), (.int 0), (.int 0)] := A6
  show oG p e below s n0 _ _ _ (T6.setTop (mkF m 16 #[.val (.ref a1), .unset, .unset, .unset, .unset, .unset, .unset, .unset] [(.ref b1)]))
  refine o_astoreN H6 (L' := #[.val (.ref a1), .val (.ref b1), .unset, .unset, .unset, .unset, .unset, .unset]) rfl rfl d1_16 rfl ?_
  refine o_iconst H6 (0 : Int32) rfl d1_17 rfl ?_
  refine o_istoreN H6 (L' := #[.val (.ref a1), .val (.ref b1), .val (.int (0 : Int32)), .unset, .unset, .unset, .unset, .unset]) rfl d1_18 rfl ?_
  refine o_iconst H6 (0 : Int32) rfl d1_19 rfl ?_
  refine o_istoreN H6 (L' := #[.val (.ref a1), .val (.ref b1), .val (.int (0 : Int32)), .val (.int (0 : Int32)), .unset, .unset, .unset, .unset]) rfl d1_20 rfl ?_
  refine o_aloadN H6 rfl rfl d1_21 rfl ?_
  refine o_astore H6 (L' := #[.val (.ref a1), .val (.ref b1), .val (.int (0 : Int32)), .val (.int (0 : Int32)), .val (.ref a1), .unset, .unset, .unset]) rfl rfl d1_22 rfl ?_
  refine o_aload H6 rfl rfl d1_24 rfl ?_
  refine o_arraylength H6 (2 : Int32) (AV1.ext (o_kext k7)) rfl d1_26 rfl ?_
  refine o_istore H6 (L' := #[.val (.ref a1), .val (.ref b1), .val (.int (0 : Int32)), .val (.int (0 : Int32)), .val (.ref a1), .val (.int (2 : Int32)), .unset, .unset]) rfl d1_27 rfl ?_
  refine o_iconst H6 (0 : Int32) rfl d1_29 rfl ?_
  refine o_istore H6 (L' := #[.val (.ref a1), .val (.ref b1), .val (.int (0 : Int32)), .val (.int (0 : Int32)), .val (.ref a1), .val (.int (2 : Int32)), .val (.int (0 : Int32)), .unset]) rfl d1_30 rfl ?_
  obtain ⟨bf0, e_bf0⟩ : ∃ z : Int32, z = own_bf (0 : Int32) x0 := ⟨_, rfl⟩
  refine rmB l Z a0 hw a1 b1 _ h6 n0 _ 0 (0 : Int32) bf0 (0 : Int32) (8 : Int32) (0 : Int32) (2 : Int32) x0 _ (AV1.ext (o_kext k7)) (by decide) (by decide) rfl e_bf0.symm (by decide) (Or.inl rfl) p e s m below meth c T6 H6 ?_
  refine rmC l Z a0 hw a1 b1 b6 al _ h6 n0 bf0 (8 : Int32) (3 : Int32) (0 : Int32) (2 : Int32) (0 : Int32) (1 : Int32) cs [(.int 0), (.int 0), (.int 0), (.int 0)] [(own_en bf0 3), (.int 0), (.int 0), (.int 0)] 0 _ (by decide) (by decide) f8 z1 FV6 FC6 FN6 AA6 z6 ne6 (by decide) (Nat.le_of_ble_eq_true rfl) (Nat.le_of_ble_eq_true rfl) (by decide) rfl (S_a.ext (o_kext k7)) (AL.ext (o_kext k7)) (S_c.ext (o_kext k7)) hcs p e s m below meth c T6 H6 ?_
  intro T9 h9 H9 K9 FV9 FC9 FN9 A9
  have k10 := k7.trans K9 (allS (Or.inr y1) (allS (Or.inr y6) all0))
  have f11 := f8.keep K9
  have f12 := X6.keep K9
  refine rmE l Z a0 hw a1 b1 _ h9 n0 bf0 (3 : Int32) (0 : Int32) (1 : Int32) (2 : Int32) _ (by decide) (by decide) p e s m below meth c T9 H9 ?_
  obtain ⟨bf1, e_bf1⟩ : ∃ z : Int32, z = own_bf bf0 x1 := ⟨_, rfl⟩
  refine rmB l Z a0 hw a1 b1 _ h9 n0 _ 1 bf0 bf1 (3 : Int32) (11 : Int32) (1 : Int32) (2 : Int32) x1 _ (AV1.ext (o_kext k10)) (by decide) (by decide) rfl e_bf1.symm (by decide) (Or.inr ⟨_, rfl⟩) p e s m below meth c T9 H9 ?_
  refine rmC l Z a0 hw a1 b1 b6 al _ h9 n0 bf1 (11 : Int32) (6 : Int32) (1 : Int32) (2 : Int32) (1 : Int32) (2 : Int32) cs [(own_en bf0 3), (.int 0), (.int 0), (.int 0)] [(own_en bf0 3), (own_en bf1 6), (.int 0), (.int 0)] 1 _ (by decide) (by decide) f11 z1 FV9 FC9 FN9 A9 z6 ne6 (by decide) (Nat.le_of_ble_eq_true rfl) (Nat.le_of_ble_eq_true rfl) (by decide) rfl (S_a.ext (o_kext k10)) (AL.ext (o_kext k10)) (S_c.ext (o_kext k10)) hcs p e s m below meth c T9 H9 ?_
  intro T13 h13 H13 K13 FV13 FC13 FN13 A13
  have k14 := k10.trans K13 (allS (Or.inr y1) (allS (Or.inr y6) all0))
  have f15 := f11.keep K13
  have f16 := f12.keep K13
  refine rmC l Z a0 hw a1 b1 b6 al _ h13 n0 bf1 (6 : Int32) (1 : Int32) (1 : Int32) (2 : Int32) (2 : Int32) (3 : Int32) cs [(own_en bf0 3), (own_en bf1 6), (.int 0), (.int 0)] [(own_en bf0 3), (own_en bf1 6), (own_en bf1 1), (.int 0)] 2 _ (by decide) (by decide) f15 z1 FV13 FC13 FN13 A13 z6 ne6 (by decide) (Nat.le_of_ble_eq_true rfl) (Nat.le_of_ble_eq_true rfl) (by decide) rfl (S_a.ext (o_kext k14)) (AL.ext (o_kext k14)) (S_c.ext (o_kext k14)) hcs p e s m below meth c T13 H13 ?_
  intro T17 h17 H17 K17 FV17 FC17 FN17 A17
  have k18 := k14.trans K17 (allS (Or.inr y1) (allS (Or.inr y6) all0))
  have f19 := f15.keep K17
  have f20 := f16.keep K17
  refine rmE l Z a0 hw a1 b1 _ h17 n0 bf1 (1 : Int32) (1 : Int32) (2 : Int32) (2 : Int32) _ (by decide) (by decide) p e s m below meth c T17 H17 ?_
  refine o_iload H17 rfl d1_32 rfl ?_
  refine o_iload H17 rfl d1_34 rfl ?_
  refine o_icmp_t H17 d1_36 (by decide) (pt := 93) (by decide) (by decide) ?_
  refine o_iloadN H17 rfl d1_93 rfl ?_
  refine o_if_f H17 d1_94 (by decide) rfl ?_
  refine o_aloadN H17 rfl rfl d1_97 rfl ?_
  refine o_getS H17 (host := "") (Or.inl (w115 hw)) (S_a.ext (o_kext k18)) d1_98 rfl ?_
  intro T21 H22
  refine o_iloadN H22 rfl d1_101 rfl ?_
  refine o_iconst H22 (5 : Int32) rfl d1_102 rfl ?_
  refine o_iloadN H22 rfl d1_103 rfl ?_
  refine o_isub H22 d1_104 rfl ?_
  refine o_fold (4 : Int32) (by decide) ?_
  refine o_ishl H22 d1_105 rfl ?_
  refine o_bipush H22 (31 : Int32) rfl d1_106 rfl ?_
  refine o_iand H22 d1_108 rfl ?_
  refine o_caload H22 ((((bf1 <<< ((4 : Int32) &&& 31)) &&& (31 : Int32))).toInt.toNat) (.int (own_al ((bf1 <<< ((4 : Int32) &&& 31)) &&& (31 : Int32)))) (AL.ext (o_kext k18)) (own_ix1 (bf1 <<< ((4 : Int32) &&& 31))) (own_ix2 (bf1 <<< ((4 : Int32) &&& 31))) d1_109 rfl ?_
  obtain ⟨ch3, e_ch3⟩ : ∃ z : Int32, z = (own_al ((bf1 <<< ((4 : Int32) &&& 31)) &&& (31 : Int32))) := ⟨_, rfl⟩
  rw [← e_ch3]
  have hc_ch3 : ¬ 255 < ch3 := by rw [e_ch3]; exact own_al255 _
  refine o_virtual H22 [(.int ch3)] [] (rm21 l Z a0 hw b1 ch3 b6 [(own_en bf0 3), (own_en bf1 6), (own_en bf1 1), (.int 0)] (3 : Int32) 3 cs h17 n0 H22.le f19 z1 FV17 FC17 FN17 A17 z6 ne6 (by decide) (Nat.le_of_ble_eq_true rfl) (Nat.le_of_ble_eq_true rfl) hc_ch3 (S_c.ext (o_kext k18)) hcs) f19 (w117 hw) (w118 hw) (o_nf (w120 hw)) (w120 hw) (w119 hw) (w8 hw) (w121 hw) (by decide) (lenOf pd21 rfl) rfl rfl (by decide) (Nat.le_of_ble_eq_true rfl) (by decide) (by decide) d1_110 rfl ?_
  intro T23 v23 h23 H23 q23
  obtain ⟨rfl, K23, FV23, FC23, FN23, A23⟩ := q23
  have k24 := k18.trans K23 (allS (Or.inr y1) (allS (Or.inr y6) all0))
  have f25 := f19.keep K23
  have f26 := f20.keep K23
  have FO23 : Fld Z h23 b1 "java/lang/AbstractStringBuilder" "count" "I" (.int (4 : Int32)) := FN23
  have AO23 : oA .byte Z h23 b6 [(own_en bf0 3), (own_en bf1 6), (own_en bf1 1), (.int (nar .byte ch3.toInt8.toInt32))] := A23
  show oG p e below s n0 _ _ _ (T23.setTop (mkF m 113 #[.val (.ref a1), .val (.ref b1), .val (.int bf1), .val (.int (1 : Int32)), .val (.ref a1), .val (.int (2 : Int32)), .val (.int (2 : Int32)), .val (.int x1)] [(.ref b1)]))
  refine o_pop H23 rfl d1_113 rfl ?_
  have OF : oFit .byte [(own_en bf0 3), (own_en bf1 6), (own_en bf1 1), (.int (nar .byte ch3.toInt8.toInt32))] := by
    intro v hv
    simp only [List.mem_cons, List.not_mem_nil, or_false] at hv
    rcases hv with rfl | rfl | rfl | rfl <;> exact fits_nar_byte _
  refine o_aloadN H23 rfl rfl d1_114 rfl ?_
  refine o_virtual H23 [] [] (rm5 l Z a0 hw b1 b6 [(own_en bf0 3), (own_en bf1 6), (own_en bf1 1), (.int (nar .byte ch3.toInt8.toInt32))] (4 : Int32) cs h23 n0 H23.le f25 FV23 FC23 FO23 AO23 f26 OF rfl (Nat.le_of_ble_eq_true rfl) (S_c.ext (o_kext k24)) hcs) f25 (w27 hw) (w28 hw) (o_nf (w30 hw)) (w30 hw) (w29 hw) (w8 hw) (w31 hw) (by decide) (lenOf pd5 rfl) rfl rfl (by decide) (Nat.le_of_ble_eq_true rfl) (by decide) (by decide) d1_115 rfl ?_
  intro T27 v27 h27 H27 q27
  obtain ⟨r27, b27, rfl, K27, X27, FC27, FV27, A27⟩ := q27
  have k28 := k24.trans K27 all0
  show oG p e below s n0 _ _ _ (T27.setTop (mkF m 118 #[.val (.ref a1), .val (.ref b1), .val (.int bf1), .val (.int (1 : Int32)), .val (.ref a1), .val (.int (2 : Int32)), .val (.int (2 : Int32)), .val (.int x1)] [(.ref r27)]))
  have fin : oA .byte Z h27 b27 (own_enc_2 x0 x1) := by
    have q := A27
    subst e_ch3
    subst e_bf1
    subst e_bf0
    exact q
  exact o_areturn H27 rfl rfl rfl rfl d1_118 (by decide) (by decide) ⟨_, _, rfl, k28, X27, FC27, FV27, fin⟩
set_option maxRecDepth 65536 in
set_option maxHeartbeats 40000000 in
theorem rm1_3 (l : Launch) (Z : State) (a0 : Array Value) (hw : ∀ d ∈ tables_1, d.before a0 Z = true) (a1 : Addr) (al : Addr) (cs : Int32) (x0 x1 x2 : Int32) (h0 : Heap) (n0 : Nat) (Z0 : n0 ≤ h0.size) (AV1 : oA .byte Z h0 a1 [(.int x0), (.int x1), (.int x2)]) (S_a : Sta Z h0 "com/example/encase/encase/codec/Base32" "ALPHABET" "[C" (.ref al)) (AL : oA .char Z h0 al own_alist) (S_c : Sta Z h0 "java/lang/String" "COMPACT_STRINGS" "Z" (.int cs)) (hcs : ¬ cs = 0) :
    oC l Z n0 (⟨"com/example/encase/encase/codec/Base32", "encode", "([B)Ljava/lang/String;"⟩ : MethodName) prog_16_method_2_code 8 (some (.object "java/lang/String")) ({ frames := 5, cells := 6, slots := 60, locals := 90 } : Room) 6 60 #[(.ref a1)] h0 (fun v h => ∃ r b, v = some (.ref r) ∧ Keep h0 h [] ∧ Exa Z h r "java/lang/String" ∧ Fld Z h r "java/lang/String" "coder" "B" (.int 0) ∧ Fld Z h r "java/lang/String" "value" "[B" (.ref b) ∧ oA .byte Z h b (own_enc_3 x0 x1 x2)) := by
  refine oC.of (L := #[.val (.ref a1), .unset, .unset, .unset, .unset, .unset, .unset, .unset]) pn1 Z0 (fun m => by first | (simp [entryFrame, mkF, argsToLocals, Value.category]; done) | rfl) ?_
  intro p e s m below meth c T H
  refine o_new H (w6 hw) (w7 hw) (w8 hw) d1_0 rfl (by decide) (by decide) ?_
  intro T1 h1 b1 g1 H1 E1 A1 D1
  have ne1_al : al ≠ b1 := by rw [g1]; exact Nat.ne_of_lt ((AL.ext (o_kext (Keep.refl h0 [])))).lt
  have ne1_a1 : a1 ≠ b1 := by rw [g1]; exact Nat.ne_of_lt ((AV1.ext (o_kext (Keep.refl h0 [])))).lt
  have z1 : n0 ≤ b1 := by rw [g1]; exact H.le
  have y1 : h0.size ≤ b1 := by rw [g1]; exact (Keep.refl h0 []).1
  have k2 := (Keep.refl h0 []).ext E1
  have f3 : Fld Z h1 b1 "java/lang/AbstractStringBuilder" "value" "[B" .null := D1 (Or.inl (w24 hw)) (ty := (.array .byte)) (by decide)
  have f4 : Fld Z h1 b1 "java/lang/AbstractStringBuilder" "coder" "B" (.int (0 : Int32)) := D1 (Or.inl (w26 hw)) (ty := .byte) (by decide)
  have f5 : Fld Z h1 b1 "java/lang/AbstractStringBuilder" "count" "I" (.int (0 : Int32)) := D1 (Or.inl (w57 hw)) (ty := .int) (by decide)
  refine o_dup H1 rfl d1_3 rfl ?_
  refine o_aloadN H1 rfl rfl d1_4 rfl ?_
  refine o_arraylength H1 (3 : Int32) (AV1.ext (o_kext k2)) rfl d1_5 rfl ?_
  refine o_bipush H1 (8 : Int32) rfl d1_6 rfl ?_
  refine o_imul H1 d1_8 rfl ?_
  refine o_fold (24 : Int32) (by decide) ?_
  refine o_iconst H1 (4 : Int32) rfl d1_9 rfl ?_
  refine o_iadd H1 d1_10 rfl ?_
  refine o_fold (28 : Int32) (by decide) ?_
  refine o_iconst H1 (5 : Int32) rfl d1_11 rfl ?_
  refine o_idiv H1 (by decide) d1_12 rfl ?_
  refine o_fold (5 : Int32) (by decide) ?_
  refine o_special H1 [(.int (5 : Int32))] [(.ref b1)] (rm2 l Z a0 hw b1 (5 : Int32) 5 cs h1 n0 H1.le A1 z1 f3 f4 f5 (by decide) (by decide) (S_c.ext (o_kext k2)) hcs) rfl (w9 hw) (w10 hw) (w8 hw) (w11 hw) (by decide) (lenOf pd2 rfl) rfl rfl (by decide) (Nat.le_of_ble_eq_true rfl) (by decide) (by decide) d1_13 rfl ?_
  intro T6 v6 h6 H6 q6
  obtain ⟨rfl, b6, K6, FV6, FC6, FN6, A6, X6, z6, y06, ne6⟩ := q6
  have k7 := k2.trans K6 (allS (Or.inr y1) all0)
  have f8 := A1.keep K6
  have y6 : h0.size ≤ b6 := Nat.le_trans (k2).1 y06
  have AA6 : oA .byte Z h6 b6 [(.int 0), (.int 0), (.int 0), (.int 0), (.int 0)] := A6
  show oG p e below s n0 _ _ _ (T6.setTop (mkF m 16 #[.val (.ref a1), .unset, .unset, .unset, .unset, .unset, .unset, .unset] [(.ref b1)]))
  refine o_astoreN H6 (L' := #[.val (.ref a1), .val (.ref b1), .unset, .unset, .unset, .unset, .unset, .unset]) rfl rfl d1_16 rfl ?_
  refine o_iconst H6 (0 : Int32) rfl d1_17 rfl ?_
  refine o_istoreN H6 (L' := #[.val (.ref a1), .val (.ref b1), .val (.int (0 : Int32)), .unset, .unset, .unset, .unset, .unset]) rfl d1_18 rfl ?_
  refine o_iconst H6 (0 : Int32) rfl d1_19 rfl ?_
  refine o_istoreN H6 (L' := #[.val (.ref a1), .val (.ref b1), .val (.int (0 : Int32)), .val (.int (0 : Int32)), .unset, .unset, .unset, .unset]) rfl d1_20 rfl ?_
  refine o_aloadN H6 rfl rfl d1_21 rfl ?_
  refine o_astore H6 (L' := #[.val (.ref a1), .val (.ref b1), .val (.int (0 : Int32)), .val (.int (0 : Int32)), .val (.ref a1), .unset, .unset, .unset]) rfl rfl d1_22 rfl ?_
  refine o_aload H6 rfl rfl d1_24 rfl ?_
  refine o_arraylength H6 (3 : Int32) (AV1.ext (o_kext k7)) rfl d1_26 rfl ?_
  refine o_istore H6 (L' := #[.val (.ref a1), .val (.ref b1), .val (.int (0 : Int32)), .val (.int (0 : Int32)), .val (.ref a1), .val (.int (3 : Int32)), .unset, .unset]) rfl d1_27 rfl ?_
  refine o_iconst H6 (0 : Int32) rfl d1_29 rfl ?_
  refine o_istore H6 (L' := #[.val (.ref a1), .val (.ref b1), .val (.int (0 : Int32)), .val (.int (0 : Int32)), .val (.ref a1), .val (.int (3 : Int32)), .val (.int (0 : Int32)), .unset]) rfl d1_30 rfl ?_
  obtain ⟨bf0, e_bf0⟩ : ∃ z : Int32, z = own_bf (0 : Int32) x0 := ⟨_, rfl⟩
  refine rmB l Z a0 hw a1 b1 _ h6 n0 _ 0 (0 : Int32) bf0 (0 : Int32) (8 : Int32) (0 : Int32) (3 : Int32) x0 _ (AV1.ext (o_kext k7)) (by decide) (by decide) rfl e_bf0.symm (by decide) (Or.inl rfl) p e s m below meth c T6 H6 ?_
  refine rmC l Z a0 hw a1 b1 b6 al _ h6 n0 bf0 (8 : Int32) (3 : Int32) (0 : Int32) (3 : Int32) (0 : Int32) (1 : Int32) cs [(.int 0), (.int 0), (.int 0), (.int 0), (.int 0)] [(own_en bf0 3), (.int 0), (.int 0), (.int 0), (.int 0)] 0 _ (by decide) (by decide) f8 z1 FV6 FC6 FN6 AA6 z6 ne6 (by decide) (Nat.le_of_ble_eq_true rfl) (Nat.le_of_ble_eq_true rfl) (by decide) rfl (S_a.ext (o_kext k7)) (AL.ext (o_kext k7)) (S_c.ext (o_kext k7)) hcs p e s m below meth c T6 H6 ?_
  intro T9 h9 H9 K9 FV9 FC9 FN9 A9
  have k10 := k7.trans K9 (allS (Or.inr y1) (allS (Or.inr y6) all0))
  have f11 := f8.keep K9
  have f12 := X6.keep K9
  refine rmE l Z a0 hw a1 b1 _ h9 n0 bf0 (3 : Int32) (0 : Int32) (1 : Int32) (3 : Int32) _ (by decide) (by decide) p e s m below meth c T9 H9 ?_
  obtain ⟨bf1, e_bf1⟩ : ∃ z : Int32, z = own_bf bf0 x1 := ⟨_, rfl⟩
  refine rmB l Z a0 hw a1 b1 _ h9 n0 _ 1 bf0 bf1 (3 : Int32) (11 : Int32) (1 : Int32) (3 : Int32) x1 _ (AV1.ext (o_kext k10)) (by decide) (by decide) rfl e_bf1.symm (by decide) (Or.inr ⟨_, rfl⟩) p e s m below meth c T9 H9 ?_
  refine rmC l Z a0 hw a1 b1 b6 al _ h9 n0 bf1 (11 : Int32) (6 : Int32) (1 : Int32) (3 : Int32) (1 : Int32) (2 : Int32) cs [(own_en bf0 3), (.int 0), (.int 0), (.int 0), (.int 0)] [(own_en bf0 3), (own_en bf1 6), (.int 0), (.int 0), (.int 0)] 1 _ (by decide) (by decide) f11 z1 FV9 FC9 FN9 A9 z6 ne6 (by decide) (Nat.le_of_ble_eq_true rfl) (Nat.le_of_ble_eq_true rfl) (by decide) rfl (S_a.ext (o_kext k10)) (AL.ext (o_kext k10)) (S_c.ext (o_kext k10)) hcs p e s m below meth c T9 H9 ?_
  intro T13 h13 H13 K13 FV13 FC13 FN13 A13
  have k14 := k10.trans K13 (allS (Or.inr y1) (allS (Or.inr y6) all0))
  have f15 := f11.keep K13
  have f16 := f12.keep K13
  refine rmC l Z a0 hw a1 b1 b6 al _ h13 n0 bf1 (6 : Int32) (1 : Int32) (1 : Int32) (3 : Int32) (2 : Int32) (3 : Int32) cs [(own_en bf0 3), (own_en bf1 6), (.int 0), (.int 0), (.int 0)] [(own_en bf0 3), (own_en bf1 6), (own_en bf1 1), (.int 0), (.int 0)] 2 _ (by decide) (by decide) f15 z1 FV13 FC13 FN13 A13 z6 ne6 (by decide) (Nat.le_of_ble_eq_true rfl) (Nat.le_of_ble_eq_true rfl) (by decide) rfl (S_a.ext (o_kext k14)) (AL.ext (o_kext k14)) (S_c.ext (o_kext k14)) hcs p e s m below meth c T13 H13 ?_
  intro T17 h17 H17 K17 FV17 FC17 FN17 A17
  have k18 := k14.trans K17 (allS (Or.inr y1) (allS (Or.inr y6) all0))
  have f19 := f15.keep K17
  have f20 := f16.keep K17
  refine rmE l Z a0 hw a1 b1 _ h17 n0 bf1 (1 : Int32) (1 : Int32) (2 : Int32) (3 : Int32) _ (by decide) (by decide) p e s m below meth c T17 H17 ?_
  obtain ⟨bf2, e_bf2⟩ : ∃ z : Int32, z = own_bf bf1 x2 := ⟨_, rfl⟩
  refine rmB l Z a0 hw a1 b1 _ h17 n0 _ 2 bf1 bf2 (1 : Int32) (9 : Int32) (2 : Int32) (3 : Int32) x2 _ (AV1.ext (o_kext k18)) (by decide) (by decide) rfl e_bf2.symm (by decide) (Or.inr ⟨_, rfl⟩) p e s m below meth c T17 H17 ?_
  refine rmC l Z a0 hw a1 b1 b6 al _ h17 n0 bf2 (9 : Int32) (4 : Int32) (2 : Int32) (3 : Int32) (3 : Int32) (4 : Int32) cs [(own_en bf0 3), (own_en bf1 6), (own_en bf1 1), (.int 0), (.int 0)] [(own_en bf0 3), (own_en bf1 6), (own_en bf1 1), (own_en bf2 4), (.int 0)] 3 _ (by decide) (by decide) f19 z1 FV17 FC17 FN17 A17 z6 ne6 (by decide) (Nat.le_of_ble_eq_true rfl) (Nat.le_of_ble_eq_true rfl) (by decide) rfl (S_a.ext (o_kext k18)) (AL.ext (o_kext k18)) (S_c.ext (o_kext k18)) hcs p e s m below meth c T17 H17 ?_
  intro T21 h21 H21 K21 FV21 FC21 FN21 A21
  have k22 := k18.trans K21 (allS (Or.inr y1) (allS (Or.inr y6) all0))
  have f23 := f19.keep K21
  have f24 := f20.keep K21
  refine rmE l Z a0 hw a1 b1 _ h21 n0 bf2 (4 : Int32) (2 : Int32) (3 : Int32) (3 : Int32) _ (by decide) (by decide) p e s m below meth c T21 H21 ?_
  refine o_iload H21 rfl d1_32 rfl ?_
  refine o_iload H21 rfl d1_34 rfl ?_
  refine o_icmp_t H21 d1_36 (by decide) (pt := 93) (by decide) (by decide) ?_
  refine o_iloadN H21 rfl d1_93 rfl ?_
  refine o_if_f H21 d1_94 (by decide) rfl ?_
  refine o_aloadN H21 rfl rfl d1_97 rfl ?_
  refine o_getS H21 (host := "") (Or.inl (w115 hw)) (S_a.ext (o_kext k22)) d1_98 rfl ?_
  intro T25 H26
  refine o_iloadN H26 rfl d1_101 rfl ?_
  refine o_iconst H26 (5 : Int32) rfl d1_102 rfl ?_
  refine o_iloadN H26 rfl d1_103 rfl ?_
  refine o_isub H26 d1_104 rfl ?_
  refine o_fold (1 : Int32) (by decide) ?_
  refine o_ishl H26 d1_105 rfl ?_
  refine o_bipush H26 (31 : Int32) rfl d1_106 rfl ?_
  refine o_iand H26 d1_108 rfl ?_
  refine o_caload H26 ((((bf2 <<< ((1 : Int32) &&& 31)) &&& (31 : Int32))).toInt.toNat) (.int (own_al ((bf2 <<< ((1 : Int32) &&& 31)) &&& (31 : Int32)))) (AL.ext (o_kext k22)) (own_ix1 (bf2 <<< ((1 : Int32) &&& 31))) (own_ix2 (bf2 <<< ((1 : Int32) &&& 31))) d1_109 rfl ?_
  obtain ⟨ch4, e_ch4⟩ : ∃ z : Int32, z = (own_al ((bf2 <<< ((1 : Int32) &&& 31)) &&& (31 : Int32))) := ⟨_, rfl⟩
  rw [← e_ch4]
  have hc_ch4 : ¬ 255 < ch4 := by rw [e_ch4]; exact own_al255 _
  refine o_virtual H26 [(.int ch4)] [] (rm21 l Z a0 hw b1 ch4 b6 [(own_en bf0 3), (own_en bf1 6), (own_en bf1 1), (own_en bf2 4), (.int 0)] (4 : Int32) 4 cs h21 n0 H26.le f23 z1 FV21 FC21 FN21 A21 z6 ne6 (by decide) (Nat.le_of_ble_eq_true rfl) (Nat.le_of_ble_eq_true rfl) hc_ch4 (S_c.ext (o_kext k22)) hcs) f23 (w117 hw) (w118 hw) (o_nf (w120 hw)) (w120 hw) (w119 hw) (w8 hw) (w121 hw) (by decide) (lenOf pd21 rfl) rfl rfl (by decide) (Nat.le_of_ble_eq_true rfl) (by decide) (by decide) d1_110 rfl ?_
  intro T27 v27 h27 H27 q27
  obtain ⟨rfl, K27, FV27, FC27, FN27, A27⟩ := q27
  have k28 := k22.trans K27 (allS (Or.inr y1) (allS (Or.inr y6) all0))
  have f29 := f23.keep K27
  have f30 := f24.keep K27
  have FO27 : Fld Z h27 b1 "java/lang/AbstractStringBuilder" "count" "I" (.int (5 : Int32)) := FN27
  have AO27 : oA .byte Z h27 b6 [(own_en bf0 3), (own_en bf1 6), (own_en bf1 1), (own_en bf2 4), (.int (nar .byte ch4.toInt8.toInt32))] := A27
  show oG p e below s n0 _ _ _ (T27.setTop (mkF m 113 #[.val (.ref a1), .val (.ref b1), .val (.int bf2), .val (.int (4 : Int32)), .val (.ref a1), .val (.int (3 : Int32)), .val (.int (3 : Int32)), .val (.int x2)] [(.ref b1)]))
  refine o_pop H27 rfl d1_113 rfl ?_
  have OF : oFit .byte [(own_en bf0 3), (own_en bf1 6), (own_en bf1 1), (own_en bf2 4), (.int (nar .byte ch4.toInt8.toInt32))] := by
    intro v hv
    simp only [List.mem_cons, List.not_mem_nil, or_false] at hv
    rcases hv with rfl | rfl | rfl | rfl | rfl <;> exact fits_nar_byte _
  refine o_aloadN H27 rfl rfl d1_114 rfl ?_
  refine o_virtual H27 [] [] (rm5 l Z a0 hw b1 b6 [(own_en bf0 3), (own_en bf1 6), (own_en bf1 1), (own_en bf2 4), (.int (nar .byte ch4.toInt8.toInt32))] (5 : Int32) cs h27 n0 H27.le f29 FV27 FC27 FO27 AO27 f30 OF rfl (Nat.le_of_ble_eq_true rfl) (S_c.ext (o_kext k28)) hcs) f29 (w27 hw) (w28 hw) (o_nf (w30 hw)) (w30 hw) (w29 hw) (w8 hw) (w31 hw) (by decide) (lenOf pd5 rfl) rfl rfl (by decide) (Nat.le_of_ble_eq_true rfl) (by decide) (by decide) d1_115 rfl ?_
  intro T31 v31 h31 H31 q31
  obtain ⟨r31, b31, rfl, K31, X31, FC31, FV31, A31⟩ := q31
  have k32 := k28.trans K31 all0
  show oG p e below s n0 _ _ _ (T31.setTop (mkF m 118 #[.val (.ref a1), .val (.ref b1), .val (.int bf2), .val (.int (4 : Int32)), .val (.ref a1), .val (.int (3 : Int32)), .val (.int (3 : Int32)), .val (.int x2)] [(.ref r31)]))
  have fin : oA .byte Z h31 b31 (own_enc_3 x0 x1 x2) := by
    have q := A31
    subst e_ch4
    subst e_bf2
    subst e_bf1
    subst e_bf0
    exact q
  exact o_areturn H31 rfl rfl rfl rfl d1_118 (by decide) (by decide) ⟨_, _, rfl, k32, X31, FC31, FV31, fin⟩
set_option maxRecDepth 65536 in
set_option maxHeartbeats 40000000 in
theorem rm1_4 (l : Launch) (Z : State) (a0 : Array Value) (hw : ∀ d ∈ tables_1, d.before a0 Z = true) (a1 : Addr) (al : Addr) (cs : Int32) (x0 x1 x2 x3 : Int32) (h0 : Heap) (n0 : Nat) (Z0 : n0 ≤ h0.size) (AV1 : oA .byte Z h0 a1 [(.int x0), (.int x1), (.int x2), (.int x3)]) (S_a : Sta Z h0 "com/example/encase/encase/codec/Base32" "ALPHABET" "[C" (.ref al)) (AL : oA .char Z h0 al own_alist) (S_c : Sta Z h0 "java/lang/String" "COMPACT_STRINGS" "Z" (.int cs)) (hcs : ¬ cs = 0) :
    oC l Z n0 (⟨"com/example/encase/encase/codec/Base32", "encode", "([B)Ljava/lang/String;"⟩ : MethodName) prog_16_method_2_code 8 (some (.object "java/lang/String")) ({ frames := 5, cells := 6, slots := 60, locals := 90 } : Room) 6 60 #[(.ref a1)] h0 (fun v h => ∃ r b, v = some (.ref r) ∧ Keep h0 h [] ∧ Exa Z h r "java/lang/String" ∧ Fld Z h r "java/lang/String" "coder" "B" (.int 0) ∧ Fld Z h r "java/lang/String" "value" "[B" (.ref b) ∧ oA .byte Z h b (own_enc_4 x0 x1 x2 x3)) := by
  refine oC.of (L := #[.val (.ref a1), .unset, .unset, .unset, .unset, .unset, .unset, .unset]) pn1 Z0 (fun m => by first | (simp [entryFrame, mkF, argsToLocals, Value.category]; done) | rfl) ?_
  intro p e s m below meth c T H
  refine o_new H (w6 hw) (w7 hw) (w8 hw) d1_0 rfl (by decide) (by decide) ?_
  intro T1 h1 b1 g1 H1 E1 A1 D1
  have ne1_al : al ≠ b1 := by rw [g1]; exact Nat.ne_of_lt ((AL.ext (o_kext (Keep.refl h0 [])))).lt
  have ne1_a1 : a1 ≠ b1 := by rw [g1]; exact Nat.ne_of_lt ((AV1.ext (o_kext (Keep.refl h0 [])))).lt
  have z1 : n0 ≤ b1 := by rw [g1]; exact H.le
  have y1 : h0.size ≤ b1 := by rw [g1]; exact (Keep.refl h0 []).1
  have k2 := (Keep.refl h0 []).ext E1
  have f3 : Fld Z h1 b1 "java/lang/AbstractStringBuilder" "value" "[B" .null := D1 (Or.inl (w24 hw)) (ty := (.array .byte)) (by decide)
  have f4 : Fld Z h1 b1 "java/lang/AbstractStringBuilder" "coder" "B" (.int (0 : Int32)) := D1 (Or.inl (w26 hw)) (ty := .byte) (by decide)
  have f5 : Fld Z h1 b1 "java/lang/AbstractStringBuilder" "count" "I" (.int (0 : Int32)) := D1 (Or.inl (w57 hw)) (ty := .int) (by decide)
  refine o_dup H1 rfl d1_3 rfl ?_
  refine o_aloadN H1 rfl rfl d1_4 rfl ?_
  refine o_arraylength H1 (4 : Int32) (AV1.ext (o_kext k2)) rfl d1_5 rfl ?_
  refine o_bipush H1 (8 : Int32) rfl d1_6 rfl ?_
  refine o_imul H1 d1_8 rfl ?_
  refine o_fold (32 : Int32) (by decide) ?_
  refine o_iconst H1 (4 : Int32) rfl d1_9 rfl ?_
  refine o_iadd H1 d1_10 rfl ?_
  refine o_fold (36 : Int32) (by decide) ?_
  refine o_iconst H1 (5 : Int32) rfl d1_11 rfl ?_
  refine o_idiv H1 (by decide) d1_12 rfl ?_
  refine o_fold (7 : Int32) (by decide) ?_
  refine o_special H1 [(.int (7 : Int32))] [(.ref b1)] (rm2 l Z a0 hw b1 (7 : Int32) 7 cs h1 n0 H1.le A1 z1 f3 f4 f5 (by decide) (by decide) (S_c.ext (o_kext k2)) hcs) rfl (w9 hw) (w10 hw) (w8 hw) (w11 hw) (by decide) (lenOf pd2 rfl) rfl rfl (by decide) (Nat.le_of_ble_eq_true rfl) (by decide) (by decide) d1_13 rfl ?_
  intro T6 v6 h6 H6 q6
  obtain ⟨rfl, b6, K6, FV6, FC6, FN6, A6, X6, z6, y06, ne6⟩ := q6
  have k7 := k2.trans K6 (allS (Or.inr y1) all0)
  have f8 := A1.keep K6
  have y6 : h0.size ≤ b6 := Nat.le_trans (k2).1 y06
  have AA6 : oA .byte Z h6 b6 [(.int 0), (.int 0), (.int 0), (.int 0), (.int 0), (.int 0), (.int 0)] := A6
  show oG p e below s n0 _ _ _ (T6.setTop (mkF m 16 #[.val (.ref a1), .unset, .unset, .unset, .unset, .unset, .unset, .unset] [(.ref b1)]))
  refine o_astoreN H6 (L' := #[.val (.ref a1), .val (.ref b1), .unset, .unset, .unset, .unset, .unset, .unset]) rfl rfl d1_16 rfl ?_
  refine o_iconst H6 (0 : Int32) rfl d1_17 rfl ?_
  refine o_istoreN H6 (L' := #[.val (.ref a1), .val (.ref b1), .val (.int (0 : Int32)), .unset, .unset, .unset, .unset, .unset]) rfl d1_18 rfl ?_
  refine o_iconst H6 (0 : Int32) rfl d1_19 rfl ?_
  refine o_istoreN H6 (L' := #[.val (.ref a1), .val (.ref b1), .val (.int (0 : Int32)), .val (.int (0 : Int32)), .unset, .unset, .unset, .unset]) rfl d1_20 rfl ?_
  refine o_aloadN H6 rfl rfl d1_21 rfl ?_
  refine o_astore H6 (L' := #[.val (.ref a1), .val (.ref b1), .val (.int (0 : Int32)), .val (.int (0 : Int32)), .val (.ref a1), .unset, .unset, .unset]) rfl rfl d1_22 rfl ?_
  refine o_aload H6 rfl rfl d1_24 rfl ?_
  refine o_arraylength H6 (4 : Int32) (AV1.ext (o_kext k7)) rfl d1_26 rfl ?_
  refine o_istore H6 (L' := #[.val (.ref a1), .val (.ref b1), .val (.int (0 : Int32)), .val (.int (0 : Int32)), .val (.ref a1), .val (.int (4 : Int32)), .unset, .unset]) rfl d1_27 rfl ?_
  refine o_iconst H6 (0 : Int32) rfl d1_29 rfl ?_
  refine o_istore H6 (L' := #[.val (.ref a1), .val (.ref b1), .val (.int (0 : Int32)), .val (.int (0 : Int32)), .val (.ref a1), .val (.int (4 : Int32)), .val (.int (0 : Int32)), .unset]) rfl d1_30 rfl ?_
  obtain ⟨bf0, e_bf0⟩ : ∃ z : Int32, z = own_bf (0 : Int32) x0 := ⟨_, rfl⟩
  refine rmB l Z a0 hw a1 b1 _ h6 n0 _ 0 (0 : Int32) bf0 (0 : Int32) (8 : Int32) (0 : Int32) (4 : Int32) x0 _ (AV1.ext (o_kext k7)) (by decide) (by decide) rfl e_bf0.symm (by decide) (Or.inl rfl) p e s m below meth c T6 H6 ?_
  refine rmC l Z a0 hw a1 b1 b6 al _ h6 n0 bf0 (8 : Int32) (3 : Int32) (0 : Int32) (4 : Int32) (0 : Int32) (1 : Int32) cs [(.int 0), (.int 0), (.int 0), (.int 0), (.int 0), (.int 0), (.int 0)] [(own_en bf0 3), (.int 0), (.int 0), (.int 0), (.int 0), (.int 0), (.int 0)] 0 _ (by decide) (by decide) f8 z1 FV6 FC6 FN6 AA6 z6 ne6 (by decide) (Nat.le_of_ble_eq_true rfl) (Nat.le_of_ble_eq_true rfl) (by decide) rfl (S_a.ext (o_kext k7)) (AL.ext (o_kext k7)) (S_c.ext (o_kext k7)) hcs p e s m below meth c T6 H6 ?_
  intro T9 h9 H9 K9 FV9 FC9 FN9 A9
  have k10 := k7.trans K9 (allS (Or.inr y1) (allS (Or.inr y6) all0))
  have f11 := f8.keep K9
  have f12 := X6.keep K9
  refine rmE l Z a0 hw a1 b1 _ h9 n0 bf0 (3 : Int32) (0 : Int32) (1 : Int32) (4 : Int32) _ (by decide) (by decide) p e s m below meth c T9 H9 ?_
  obtain ⟨bf1, e_bf1⟩ : ∃ z : Int32, z = own_bf bf0 x1 := ⟨_, rfl⟩
  refine rmB l Z a0 hw a1 b1 _ h9 n0 _ 1 bf0 bf1 (3 : Int32) (11 : Int32) (1 : Int32) (4 : Int32) x1 _ (AV1.ext (o_kext k10)) (by decide) (by decide) rfl e_bf1.symm (by decide) (Or.inr ⟨_, rfl⟩) p e s m below meth c T9 H9 ?_
  refine rmC l Z a0 hw a1 b1 b6 al _ h9 n0 bf1 (11 : Int32) (6 : Int32) (1 : Int32) (4 : Int32) (1 : Int32) (2 : Int32) cs [(own_en bf0 3), (.int 0), (.int 0), (.int 0), (.int 0), (.int 0), (.int 0)] [(own_en bf0 3), (own_en bf1 6), (.int 0), (.int 0), (.int 0), (.int 0), (.int 0)] 1 _ (by decide) (by decide) f11 z1 FV9 FC9 FN9 A9 z6 ne6 (by decide) (Nat.le_of_ble_eq_true rfl) (Nat.le_of_ble_eq_true rfl) (by decide) rfl (S_a.ext (o_kext k10)) (AL.ext (o_kext k10)) (S_c.ext (o_kext k10)) hcs p e s m below meth c T9 H9 ?_
  intro T13 h13 H13 K13 FV13 FC13 FN13 A13
  have k14 := k10.trans K13 (allS (Or.inr y1) (allS (Or.inr y6) all0))
  have f15 := f11.keep K13
  have f16 := f12.keep K13
  refine rmC l Z a0 hw a1 b1 b6 al _ h13 n0 bf1 (6 : Int32) (1 : Int32) (1 : Int32) (4 : Int32) (2 : Int32) (3 : Int32) cs [(own_en bf0 3), (own_en bf1 6), (.int 0), (.int 0), (.int 0), (.int 0), (.int 0)] [(own_en bf0 3), (own_en bf1 6), (own_en bf1 1), (.int 0), (.int 0), (.int 0), (.int 0)] 2 _ (by decide) (by decide) f15 z1 FV13 FC13 FN13 A13 z6 ne6 (by decide) (Nat.le_of_ble_eq_true rfl) (Nat.le_of_ble_eq_true rfl) (by decide) rfl (S_a.ext (o_kext k14)) (AL.ext (o_kext k14)) (S_c.ext (o_kext k14)) hcs p e s m below meth c T13 H13 ?_
  intro T17 h17 H17 K17 FV17 FC17 FN17 A17
  have k18 := k14.trans K17 (allS (Or.inr y1) (allS (Or.inr y6) all0))
  have f19 := f15.keep K17
  have f20 := f16.keep K17
  refine rmE l Z a0 hw a1 b1 _ h17 n0 bf1 (1 : Int32) (1 : Int32) (2 : Int32) (4 : Int32) _ (by decide) (by decide) p e s m below meth c T17 H17 ?_
  obtain ⟨bf2, e_bf2⟩ : ∃ z : Int32, z = own_bf bf1 x2 := ⟨_, rfl⟩
  refine rmB l Z a0 hw a1 b1 _ h17 n0 _ 2 bf1 bf2 (1 : Int32) (9 : Int32) (2 : Int32) (4 : Int32) x2 _ (AV1.ext (o_kext k18)) (by decide) (by decide) rfl e_bf2.symm (by decide) (Or.inr ⟨_, rfl⟩) p e s m below meth c T17 H17 ?_
  refine rmC l Z a0 hw a1 b1 b6 al _ h17 n0 bf2 (9 : Int32) (4 : Int32) (2 : Int32) (4 : Int32) (3 : Int32) (4 : Int32) cs [(own_en bf0 3), (own_en bf1 6), (own_en bf1 1), (.int 0), (.int 0), (.int 0), (.int 0)] [(own_en bf0 3), (own_en bf1 6), (own_en bf1 1), (own_en bf2 4), (.int 0), (.int 0), (.int 0)] 3 _ (by decide) (by decide) f19 z1 FV17 FC17 FN17 A17 z6 ne6 (by decide) (Nat.le_of_ble_eq_true rfl) (Nat.le_of_ble_eq_true rfl) (by decide) rfl (S_a.ext (o_kext k18)) (AL.ext (o_kext k18)) (S_c.ext (o_kext k18)) hcs p e s m below meth c T17 H17 ?_
  intro T21 h21 H21 K21 FV21 FC21 FN21 A21
  have k22 := k18.trans K21 (allS (Or.inr y1) (allS (Or.inr y6) all0))
  have f23 := f19.keep K21
  have f24 := f20.keep K21
  refine rmE l Z a0 hw a1 b1 _ h21 n0 bf2 (4 : Int32) (2 : Int32) (3 : Int32) (4 : Int32) _ (by decide) (by decide) p e s m below meth c T21 H21 ?_
  obtain ⟨bf3, e_bf3⟩ : ∃ z : Int32, z = own_bf bf2 x3 := ⟨_, rfl⟩
  refine rmB l Z a0 hw a1 b1 _ h21 n0 _ 3 bf2 bf3 (4 : Int32) (12 : Int32) (3 : Int32) (4 : Int32) x3 _ (AV1.ext (o_kext k22)) (by decide) (by decide) rfl e_bf3.symm (by decide) (Or.inr ⟨_, rfl⟩) p e s m below meth c T21 H21 ?_
  refine rmC l Z a0 hw a1 b1 b6 al _ h21 n0 bf3 (12 : Int32) (7 : Int32) (3 : Int32) (4 : Int32) (4 : Int32) (5 : Int32) cs [(own_en bf0 3), (own_en bf1 6), (own_en bf1 1), (own_en bf2 4), (.int 0), (.int 0), (.int 0)] [(own_en bf0 3), (own_en bf1 6), (own_en bf1 1), (own_en bf2 4), (own_en bf3 7), (.int 0), (.int 0)] 4 _ (by decide) (by decide) f23 z1 FV21 FC21 FN21 A21 z6 ne6 (by decide) (Nat.le_of_ble_eq_true rfl) (Nat.le_of_ble_eq_true rfl) (by decide) rfl (S_a.ext (o_kext k22)) (AL.ext (o_kext k22)) (S_c.ext (o_kext k22)) hcs p e s m below meth c T21 H21 ?_
  intro T25 h25 H25 K25 FV25 FC25 FN25 A25
  have k26 := k22.trans K25 (allS (Or.inr y1) (allS (Or.inr y6) all0))
  have f27 := f23.keep K25
  have f28 := f24.keep K25
  refine rmC l Z a0 hw a1 b1 b6 al _ h25 n0 bf3 (7 : Int32) (2 : Int32) (3 : Int32) (4 : Int32) (5 : Int32) (6 : Int32) cs [(own_en bf0 3), (own_en bf1 6), (own_en bf1 1), (own_en bf2 4), (own_en bf3 7), (.int 0), (.int 0)] [(own_en bf0 3), (own_en bf1 6), (own_en bf1 1), (own_en bf2 4), (own_en bf3 7), (own_en bf3 2), (.int 0)] 5 _ (by decide) (by decide) f27 z1 FV25 FC25 FN25 A25 z6 ne6 (by decide) (Nat.le_of_ble_eq_true rfl) (Nat.le_of_ble_eq_true rfl) (by decide) rfl (S_a.ext (o_kext k26)) (AL.ext (o_kext k26)) (S_c.ext (o_kext k26)) hcs p e s m below meth c T25 H25 ?_
  intro T29 h29 H29 K29 FV29 FC29 FN29 A29
  have k30 := k26.trans K29 (allS (Or.inr y1) (allS (Or.inr y6) all0))
  have f31 := f27.keep K29
  have f32 := f28.keep K29
  refine rmE l Z a0 hw a1 b1 _ h29 n0 bf3 (2 : Int32) (3 : Int32) (4 : Int32) (4 : Int32) _ (by decide) (by decide) p e s m below meth c T29 H29 ?_
  refine o_iload H29 rfl d1_32 rfl ?_
  refine o_iload H29 rfl d1_34 rfl ?_
  refine o_icmp_t H29 d1_36 (by decide) (pt := 93) (by decide) (by decide) ?_
  refine o_iloadN H29 rfl d1_93 rfl ?_
  refine o_if_f H29 d1_94 (by decide) rfl ?_
  refine o_aloadN H29 rfl rfl d1_97 rfl ?_
  refine o_getS H29 (host := "") (Or.inl (w115 hw)) (S_a.ext (o_kext k30)) d1_98 rfl ?_
  intro T33 H34
  refine o_iloadN H34 rfl d1_101 rfl ?_
  refine o_iconst H34 (5 : Int32) rfl d1_102 rfl ?_
  refine o_iloadN H34 rfl d1_103 rfl ?_
  refine o_isub H34 d1_104 rfl ?_
  refine o_fold (3 : Int32) (by decide) ?_
  refine o_ishl H34 d1_105 rfl ?_
  refine o_bipush H34 (31 : Int32) rfl d1_106 rfl ?_
  refine o_iand H34 d1_108 rfl ?_
  refine o_caload H34 ((((bf3 <<< ((3 : Int32) &&& 31)) &&& (31 : Int32))).toInt.toNat) (.int (own_al ((bf3 <<< ((3 : Int32) &&& 31)) &&& (31 : Int32)))) (AL.ext (o_kext k30)) (own_ix1 (bf3 <<< ((3 : Int32) &&& 31))) (own_ix2 (bf3 <<< ((3 : Int32) &&& 31))) d1_109 rfl ?_
  obtain ⟨ch6, e_ch6⟩ : ∃ z : Int32, z = (own_al ((bf3 <<< ((3 : Int32) &&& 31)) &&& (31 : Int32))) := ⟨_, rfl⟩
  rw [← e_ch6]
  have hc_ch6 : ¬ 255 < ch6 := by rw [e_ch6]; exact own_al255 _
  refine o_virtual H34 [(.int ch6)] [] (rm21 l Z a0 hw b1 ch6 b6 [(own_en bf0 3), (own_en bf1 6), (own_en bf1 1), (own_en bf2 4), (own_en bf3 7), (own_en bf3 2), (.int 0)] (6 : Int32) 6 cs h29 n0 H34.le f31 z1 FV29 FC29 FN29 A29 z6 ne6 (by decide) (Nat.le_of_ble_eq_true rfl) (Nat.le_of_ble_eq_true rfl) hc_ch6 (S_c.ext (o_kext k30)) hcs) f31 (w117 hw) (w118 hw) (o_nf (w120 hw)) (w120 hw) (w119 hw) (w8 hw) (w121 hw) (by decide) (lenOf pd21 rfl) rfl rfl (by decide) (Nat.le_of_ble_eq_true rfl) (by decide) (by decide) d1_110 rfl ?_
  intro T35 v35 h35 H35 q35
  obtain ⟨rfl, K35, FV35, FC35, FN35, A35⟩ := q35
  have k36 := k30.trans K35 (allS (Or.inr y1) (allS (Or.inr y6) all0))
  have f37 := f31.keep K35
  have f38 := f32.keep K35
  have FO35 : Fld Z h35 b1 "java/lang/AbstractStringBuilder" "count" "I" (.int (7 : Int32)) := FN35
  have AO35 : oA .byte Z h35 b6 [(own_en bf0 3), (own_en bf1 6), (own_en bf1 1), (own_en bf2 4), (own_en bf3 7), (own_en bf3 2), (.int (nar .byte ch6.toInt8.toInt32))] := A35
  show oG p e below s n0 _ _ _ (T35.setTop (mkF m 113 #[.val (.ref a1), .val (.ref b1), .val (.int bf3), .val (.int (2 : Int32)), .val (.ref a1), .val (.int (4 : Int32)), .val (.int (4 : Int32)), .val (.int x3)] [(.ref b1)]))
  refine o_pop H35 rfl d1_113 rfl ?_
  have OF : oFit .byte [(own_en bf0 3), (own_en bf1 6), (own_en bf1 1), (own_en bf2 4), (own_en bf3 7), (own_en bf3 2), (.int (nar .byte ch6.toInt8.toInt32))] := by
    intro v hv
    simp only [List.mem_cons, List.not_mem_nil, or_false] at hv
    rcases hv with rfl | rfl | rfl | rfl | rfl | rfl | rfl <;> exact fits_nar_byte _
  refine o_aloadN H35 rfl rfl d1_114 rfl ?_
  refine o_virtual H35 [] [] (rm5 l Z a0 hw b1 b6 [(own_en bf0 3), (own_en bf1 6), (own_en bf1 1), (own_en bf2 4), (own_en bf3 7), (own_en bf3 2), (.int (nar .byte ch6.toInt8.toInt32))] (7 : Int32) cs h35 n0 H35.le f37 FV35 FC35 FO35 AO35 f38 OF rfl (Nat.le_of_ble_eq_true rfl) (S_c.ext (o_kext k36)) hcs) f37 (w27 hw) (w28 hw) (o_nf (w30 hw)) (w30 hw) (w29 hw) (w8 hw) (w31 hw) (by decide) (lenOf pd5 rfl) rfl rfl (by decide) (Nat.le_of_ble_eq_true rfl) (by decide) (by decide) d1_115 rfl ?_
  intro T39 v39 h39 H39 q39
  obtain ⟨r39, b39, rfl, K39, X39, FC39, FV39, A39⟩ := q39
  have k40 := k36.trans K39 all0
  show oG p e below s n0 _ _ _ (T39.setTop (mkF m 118 #[.val (.ref a1), .val (.ref b1), .val (.int bf3), .val (.int (2 : Int32)), .val (.ref a1), .val (.int (4 : Int32)), .val (.int (4 : Int32)), .val (.int x3)] [(.ref r39)]))
  have fin : oA .byte Z h39 b39 (own_enc_4 x0 x1 x2 x3) := by
    have q := A39
    subst e_ch6
    subst e_bf3
    subst e_bf2
    subst e_bf1
    subst e_bf0
    exact q
  exact o_areturn H39 rfl rfl rfl rfl d1_118 (by decide) (by decide) ⟨_, _, rfl, k40, X39, FC39, FV39, fin⟩
set_option maxRecDepth 65536 in
set_option maxHeartbeats 40000000 in
theorem rm1_5 (l : Launch) (Z : State) (a0 : Array Value) (hw : ∀ d ∈ tables_1, d.before a0 Z = true) (a1 : Addr) (al : Addr) (cs : Int32) (x0 x1 x2 x3 x4 : Int32) (h0 : Heap) (n0 : Nat) (Z0 : n0 ≤ h0.size) (AV1 : oA .byte Z h0 a1 [(.int x0), (.int x1), (.int x2), (.int x3), (.int x4)]) (S_a : Sta Z h0 "com/example/encase/encase/codec/Base32" "ALPHABET" "[C" (.ref al)) (AL : oA .char Z h0 al own_alist) (S_c : Sta Z h0 "java/lang/String" "COMPACT_STRINGS" "Z" (.int cs)) (hcs : ¬ cs = 0) :
    oC l Z n0 (⟨"com/example/encase/encase/codec/Base32", "encode", "([B)Ljava/lang/String;"⟩ : MethodName) prog_16_method_2_code 8 (some (.object "java/lang/String")) ({ frames := 5, cells := 6, slots := 60, locals := 90 } : Room) 6 60 #[(.ref a1)] h0 (fun v h => ∃ r b, v = some (.ref r) ∧ Keep h0 h [] ∧ Exa Z h r "java/lang/String" ∧ Fld Z h r "java/lang/String" "coder" "B" (.int 0) ∧ Fld Z h r "java/lang/String" "value" "[B" (.ref b) ∧ oA .byte Z h b (own_enc_5 x0 x1 x2 x3 x4)) := by
  refine oC.of (L := #[.val (.ref a1), .unset, .unset, .unset, .unset, .unset, .unset, .unset]) pn1 Z0 (fun m => by first | (simp [entryFrame, mkF, argsToLocals, Value.category]; done) | rfl) ?_
  intro p e s m below meth c T H
  refine o_new H (w6 hw) (w7 hw) (w8 hw) d1_0 rfl (by decide) (by decide) ?_
  intro T1 h1 b1 g1 H1 E1 A1 D1
  have ne1_al : al ≠ b1 := by rw [g1]; exact Nat.ne_of_lt ((AL.ext (o_kext (Keep.refl h0 [])))).lt
  have ne1_a1 : a1 ≠ b1 := by rw [g1]; exact Nat.ne_of_lt ((AV1.ext (o_kext (Keep.refl h0 [])))).lt
  have z1 : n0 ≤ b1 := by rw [g1]; exact H.le
  have y1 : h0.size ≤ b1 := by rw [g1]; exact (Keep.refl h0 []).1
  have k2 := (Keep.refl h0 []).ext E1
  have f3 : Fld Z h1 b1 "java/lang/AbstractStringBuilder" "value" "[B" .null := D1 (Or.inl (w24 hw)) (ty := (.array .byte)) (by decide)
  have f4 : Fld Z h1 b1 "java/lang/AbstractStringBuilder" "coder" "B" (.int (0 : Int32)) := D1 (Or.inl (w26 hw)) (ty := .byte) (by decide)
  have f5 : Fld Z h1 b1 "java/lang/AbstractStringBuilder" "count" "I" (.int (0 : Int32)) := D1 (Or.inl (w57 hw)) (ty := .int) (by decide)
  refine o_dup H1 rfl d1_3 rfl ?_
  refine o_aloadN H1 rfl rfl d1_4 rfl ?_
  refine o_arraylength H1 (5 : Int32) (AV1.ext (o_kext k2)) rfl d1_5 rfl ?_
  refine o_bipush H1 (8 : Int32) rfl d1_6 rfl ?_
  refine o_imul H1 d1_8 rfl ?_
  refine o_fold (40 : Int32) (by decide) ?_
  refine o_iconst H1 (4 : Int32) rfl d1_9 rfl ?_
  refine o_iadd H1 d1_10 rfl ?_
  refine o_fold (44 : Int32) (by decide) ?_
  refine o_iconst H1 (5 : Int32) rfl d1_11 rfl ?_
  refine o_idiv H1 (by decide) d1_12 rfl ?_
  refine o_fold (8 : Int32) (by decide) ?_
  refine o_special H1 [(.int (8 : Int32))] [(.ref b1)] (rm2 l Z a0 hw b1 (8 : Int32) 8 cs h1 n0 H1.le A1 z1 f3 f4 f5 (by decide) (by decide) (S_c.ext (o_kext k2)) hcs) rfl (w9 hw) (w10 hw) (w8 hw) (w11 hw) (by decide) (lenOf pd2 rfl) rfl rfl (by decide) (Nat.le_of_ble_eq_true rfl) (by decide) (by decide) d1_13 rfl ?_
  intro T6 v6 h6 H6 q6
  obtain ⟨rfl, b6, K6, FV6, FC6, FN6, A6, X6, z6, y06, ne6⟩ := q6
  have k7 := k2.trans K6 (allS (Or.inr y1) all0)
  have f8 := A1.keep K6
  have y6 : h0.size ≤ b6 := Nat.le_trans (k2).1 y06
  have AA6 : oA .byte Z h6 b6 [(.int 0), (.int 0), (.int 0), (.int 0), (.int 0), (.int 0), (.int 0), (.int 0)] := A6
  show oG p e below s n0 _ _ _ (T6.setTop (mkF m 16 #[.val (.ref a1), .unset, .unset, .unset, .unset, .unset, .unset, .unset] [(.ref b1)]))
  refine o_astoreN H6 (L' := #[.val (.ref a1), .val (.ref b1), .unset, .unset, .unset, .unset, .unset, .unset]) rfl rfl d1_16 rfl ?_
  refine o_iconst H6 (0 : Int32) rfl d1_17 rfl ?_
  refine o_istoreN H6 (L' := #[.val (.ref a1), .val (.ref b1), .val (.int (0 : Int32)), .unset, .unset, .unset, .unset, .unset]) rfl d1_18 rfl ?_
  refine o_iconst H6 (0 : Int32) rfl d1_19 rfl ?_
  refine o_istoreN H6 (L' := #[.val (.ref a1), .val (.ref b1), .val (.int (0 : Int32)), .val (.int (0 : Int32)), .unset, .unset, .unset, .unset]) rfl d1_20 rfl ?_
  refine o_aloadN H6 rfl rfl d1_21 rfl ?_
  refine o_astore H6 (L' := #[.val (.ref a1), .val (.ref b1), .val (.int (0 : Int32)), .val (.int (0 : Int32)), .val (.ref a1), .unset, .unset, .unset]) rfl rfl d1_22 rfl ?_
  refine o_aload H6 rfl rfl d1_24 rfl ?_
  refine o_arraylength H6 (5 : Int32) (AV1.ext (o_kext k7)) rfl d1_26 rfl ?_
  refine o_istore H6 (L' := #[.val (.ref a1), .val (.ref b1), .val (.int (0 : Int32)), .val (.int (0 : Int32)), .val (.ref a1), .val (.int (5 : Int32)), .unset, .unset]) rfl d1_27 rfl ?_
  refine o_iconst H6 (0 : Int32) rfl d1_29 rfl ?_
  refine o_istore H6 (L' := #[.val (.ref a1), .val (.ref b1), .val (.int (0 : Int32)), .val (.int (0 : Int32)), .val (.ref a1), .val (.int (5 : Int32)), .val (.int (0 : Int32)), .unset]) rfl d1_30 rfl ?_
  obtain ⟨bf0, e_bf0⟩ : ∃ z : Int32, z = own_bf (0 : Int32) x0 := ⟨_, rfl⟩
  refine rmB l Z a0 hw a1 b1 _ h6 n0 _ 0 (0 : Int32) bf0 (0 : Int32) (8 : Int32) (0 : Int32) (5 : Int32) x0 _ (AV1.ext (o_kext k7)) (by decide) (by decide) rfl e_bf0.symm (by decide) (Or.inl rfl) p e s m below meth c T6 H6 ?_
  refine rmC l Z a0 hw a1 b1 b6 al _ h6 n0 bf0 (8 : Int32) (3 : Int32) (0 : Int32) (5 : Int32) (0 : Int32) (1 : Int32) cs [(.int 0), (.int 0), (.int 0), (.int 0), (.int 0), (.int 0), (.int 0), (.int 0)] [(own_en bf0 3), (.int 0), (.int 0), (.int 0), (.int 0), (.int 0), (.int 0), (.int 0)] 0 _ (by decide) (by decide) f8 z1 FV6 FC6 FN6 AA6 z6 ne6 (by decide) (Nat.le_of_ble_eq_true rfl) (Nat.le_of_ble_eq_true rfl) (by decide) rfl (S_a.ext (o_kext k7)) (AL.ext (o_kext k7)) (S_c.ext (o_kext k7)) hcs p e s m below meth c T6 H6 ?_
  intro T9 h9 H9 K9 FV9 FC9 FN9 A9
  have k10 := k7.trans K9 (allS (Or.inr y1) (allS (Or.inr y6) all0))
  have f11 := f8.keep K9
  have f12 := X6.keep K9
  refine rmE l Z a0 hw a1 b1 _ h9 n0 bf0 (3 : Int32) (0 : Int32) (1 : Int32) (5 : Int32) _ (by decide) (by decide) p e s m below meth c T9 H9 ?_
  obtain ⟨bf1, e_bf1⟩ : ∃ z : Int32, z = own_bf bf0 x1 := ⟨_, rfl⟩
  refine rmB l Z a0 hw a1 b1 _ h9 n0 _ 1 bf0 bf1 (3 : Int32) (11 : Int32) (1 : Int32) (5 : Int32) x1 _ (AV1.ext (o_kext k10)) (by decide) (by decide) rfl e_bf1.symm (by decide) (Or.inr ⟨_, rfl⟩) p e s m below meth c T9 H9 ?_
  refine rmC l Z a0 hw a1 b1 b6 al _ h9 n0 bf1 (11 : Int32) (6 : Int32) (1 : Int32) (5 : Int32) (1 : Int32) (2 : Int32) cs [(own_en bf0 3), (.int 0), (.int 0), (.int 0), (.int 0), (.int 0), (.int 0), (.int 0)] [(own_en bf0 3), (own_en bf1 6), (.int 0), (.int 0), (.int 0), (.int 0), (.int 0), (.int 0)] 1 _ (by decide) (by decide) f11 z1 FV9 FC9 FN9 A9 z6 ne6 (by decide) (Nat.le_of_ble_eq_true rfl) (Nat.le_of_ble_eq_true rfl) (by decide) rfl (S_a.ext (o_kext k10)) (AL.ext (o_kext k10)) (S_c.ext (o_kext k10)) hcs p e s m below meth c T9 H9 ?_
  intro T13 h13 H13 K13 FV13 FC13 FN13 A13
  have k14 := k10.trans K13 (allS (Or.inr y1) (allS (Or.inr y6) all0))
  have f15 := f11.keep K13
  have f16 := f12.keep K13
  refine rmC l Z a0 hw a1 b1 b6 al _ h13 n0 bf1 (6 : Int32) (1 : Int32) (1 : Int32) (5 : Int32) (2 : Int32) (3 : Int32) cs [(own_en bf0 3), (own_en bf1 6), (.int 0), (.int 0), (.int 0), (.int 0), (.int 0), (.int 0)] [(own_en bf0 3), (own_en bf1 6), (own_en bf1 1), (.int 0), (.int 0), (.int 0), (.int 0), (.int 0)] 2 _ (by decide) (by decide) f15 z1 FV13 FC13 FN13 A13 z6 ne6 (by decide) (Nat.le_of_ble_eq_true rfl) (Nat.le_of_ble_eq_true rfl) (by decide) rfl (S_a.ext (o_kext k14)) (AL.ext (o_kext k14)) (S_c.ext (o_kext k14)) hcs p e s m below meth c T13 H13 ?_
  intro T17 h17 H17 K17 FV17 FC17 FN17 A17
  have k18 := k14.trans K17 (allS (Or.inr y1) (allS (Or.inr y6) all0))
  have f19 := f15.keep K17
  have f20 := f16.keep K17
  refine rmE l Z a0 hw a1 b1 _ h17 n0 bf1 (1 : Int32) (1 : Int32) (2 : Int32) (5 : Int32) _ (by decide) (by decide) p e s m below meth c T17 H17 ?_
  obtain ⟨bf2, e_bf2⟩ : ∃ z : Int32, z = own_bf bf1 x2 := ⟨_, rfl⟩
  refine rmB l Z a0 hw a1 b1 _ h17 n0 _ 2 bf1 bf2 (1 : Int32) (9 : Int32) (2 : Int32) (5 : Int32) x2 _ (AV1.ext (o_kext k18)) (by decide) (by decide) rfl e_bf2.symm (by decide) (Or.inr ⟨_, rfl⟩) p e s m below meth c T17 H17 ?_
  refine rmC l Z a0 hw a1 b1 b6 al _ h17 n0 bf2 (9 : Int32) (4 : Int32) (2 : Int32) (5 : Int32) (3 : Int32) (4 : Int32) cs [(own_en bf0 3), (own_en bf1 6), (own_en bf1 1), (.int 0), (.int 0), (.int 0), (.int 0), (.int 0)] [(own_en bf0 3), (own_en bf1 6), (own_en bf1 1), (own_en bf2 4), (.int 0), (.int 0), (.int 0), (.int 0)] 3 _ (by decide) (by decide) f19 z1 FV17 FC17 FN17 A17 z6 ne6 (by decide) (Nat.le_of_ble_eq_true rfl) (Nat.le_of_ble_eq_true rfl) (by decide) rfl (S_a.ext (o_kext k18)) (AL.ext (o_kext k18)) (S_c.ext (o_kext k18)) hcs p e s m below meth c T17 H17 ?_
  intro T21 h21 H21 K21 FV21 FC21 FN21 A21
  have k22 := k18.trans K21 (allS (Or.inr y1) (allS (Or.inr y6) all0))
  have f23 := f19.keep K21
  have f24 := f20.keep K21
  refine rmE l Z a0 hw a1 b1 _ h21 n0 bf2 (4 : Int32) (2 : Int32) (3 : Int32) (5 : Int32) _ (by decide) (by decide) p e s m below meth c T21 H21 ?_
  obtain ⟨bf3, e_bf3⟩ : ∃ z : Int32, z = own_bf bf2 x3 := ⟨_, rfl⟩
  refine rmB l Z a0 hw a1 b1 _ h21 n0 _ 3 bf2 bf3 (4 : Int32) (12 : Int32) (3 : Int32) (5 : Int32) x3 _ (AV1.ext (o_kext k22)) (by decide) (by decide) rfl e_bf3.symm (by decide) (Or.inr ⟨_, rfl⟩) p e s m below meth c T21 H21 ?_
  refine rmC l Z a0 hw a1 b1 b6 al _ h21 n0 bf3 (12 : Int32) (7 : Int32) (3 : Int32) (5 : Int32) (4 : Int32) (5 : Int32) cs [(own_en bf0 3), (own_en bf1 6), (own_en bf1 1), (own_en bf2 4), (.int 0), (.int 0), (.int 0), (.int 0)] [(own_en bf0 3), (own_en bf1 6), (own_en bf1 1), (own_en bf2 4), (own_en bf3 7), (.int 0), (.int 0), (.int 0)] 4 _ (by decide) (by decide) f23 z1 FV21 FC21 FN21 A21 z6 ne6 (by decide) (Nat.le_of_ble_eq_true rfl) (Nat.le_of_ble_eq_true rfl) (by decide) rfl (S_a.ext (o_kext k22)) (AL.ext (o_kext k22)) (S_c.ext (o_kext k22)) hcs p e s m below meth c T21 H21 ?_
  intro T25 h25 H25 K25 FV25 FC25 FN25 A25
  have k26 := k22.trans K25 (allS (Or.inr y1) (allS (Or.inr y6) all0))
  have f27 := f23.keep K25
  have f28 := f24.keep K25
  refine rmC l Z a0 hw a1 b1 b6 al _ h25 n0 bf3 (7 : Int32) (2 : Int32) (3 : Int32) (5 : Int32) (5 : Int32) (6 : Int32) cs [(own_en bf0 3), (own_en bf1 6), (own_en bf1 1), (own_en bf2 4), (own_en bf3 7), (.int 0), (.int 0), (.int 0)] [(own_en bf0 3), (own_en bf1 6), (own_en bf1 1), (own_en bf2 4), (own_en bf3 7), (own_en bf3 2), (.int 0), (.int 0)] 5 _ (by decide) (by decide) f27 z1 FV25 FC25 FN25 A25 z6 ne6 (by decide) (Nat.le_of_ble_eq_true rfl) (Nat.le_of_ble_eq_true rfl) (by decide) rfl (S_a.ext (o_kext k26)) (AL.ext (o_kext k26)) (S_c.ext (o_kext k26)) hcs p e s m below meth c T25 H25 ?_
  intro T29 h29 H29 K29 FV29 FC29 FN29 A29
  have k30 := k26.trans K29 (allS (Or.inr y1) (allS (Or.inr y6) all0))
  have f31 := f27.keep K29
  have f32 := f28.keep K29
  refine rmE l Z a0 hw a1 b1 _ h29 n0 bf3 (2 : Int32) (3 : Int32) (4 : Int32) (5 : Int32) _ (by decide) (by decide) p e s m below meth c T29 H29 ?_
  obtain ⟨bf4, e_bf4⟩ : ∃ z : Int32, z = own_bf bf3 x4 := ⟨_, rfl⟩
  refine rmB l Z a0 hw a1 b1 _ h29 n0 _ 4 bf3 bf4 (2 : Int32) (10 : Int32) (4 : Int32) (5 : Int32) x4 _ (AV1.ext (o_kext k30)) (by decide) (by decide) rfl e_bf4.symm (by decide) (Or.inr ⟨_, rfl⟩) p e s m below meth c T29 H29 ?_
  refine rmC l Z a0 hw a1 b1 b6 al _ h29 n0 bf4 (10 : Int32) (5 : Int32) (4 : Int32) (5 : Int32) (6 : Int32) (7 : Int32) cs [(own_en bf0 3), (own_en bf1 6), (own_en bf1 1), (own_en bf2 4), (own_en bf3 7), (own_en bf3 2), (.int 0), (.int 0)] [(own_en bf0 3), (own_en bf1 6), (own_en bf1 1), (own_en bf2 4), (own_en bf3 7), (own_en bf3 2), (own_en bf4 5), (.int 0)] 6 _ (by decide) (by decide) f31 z1 FV29 FC29 FN29 A29 z6 ne6 (by decide) (Nat.le_of_ble_eq_true rfl) (Nat.le_of_ble_eq_true rfl) (by decide) rfl (S_a.ext (o_kext k30)) (AL.ext (o_kext k30)) (S_c.ext (o_kext k30)) hcs p e s m below meth c T29 H29 ?_
  intro T33 h33 H33 K33 FV33 FC33 FN33 A33
  have k34 := k30.trans K33 (allS (Or.inr y1) (allS (Or.inr y6) all0))
  have f35 := f31.keep K33
  have f36 := f32.keep K33
  refine rmC l Z a0 hw a1 b1 b6 al _ h33 n0 bf4 (5 : Int32) (0 : Int32) (4 : Int32) (5 : Int32) (7 : Int32) (8 : Int32) cs [(own_en bf0 3), (own_en bf1 6), (own_en bf1 1), (own_en bf2 4), (own_en bf3 7), (own_en bf3 2), (own_en bf4 5), (.int 0)] [(own_en bf0 3), (own_en bf1 6), (own_en bf1 1), (own_en bf2 4), (own_en bf3 7), (own_en bf3 2), (own_en bf4 5), (own_en bf4 0)] 7 _ (by decide) (by decide) f35 z1 FV33 FC33 FN33 A33 z6 ne6 (by decide) (Nat.le_of_ble_eq_true rfl) (Nat.le_of_ble_eq_true rfl) (by decide) rfl (S_a.ext (o_kext k34)) (AL.ext (o_kext k34)) (S_c.ext (o_kext k34)) hcs p e s m below meth c T33 H33 ?_
  intro T37 h37 H37 K37 FV37 FC37 FN37 A37
  have k38 := k34.trans K37 (allS (Or.inr y1) (allS (Or.inr y6) all0))
  have f39 := f35.keep K37
  have f40 := f36.keep K37
  refine rmE l Z a0 hw a1 b1 _ h37 n0 bf4 (0 : Int32) (4 : Int32) (5 : Int32) (5 : Int32) _ (by decide) (by decide) p e s m below meth c T37 H37 ?_
  refine o_iload H37 rfl d1_32 rfl ?_
  refine o_iload H37 rfl d1_34 rfl ?_
  refine o_icmp_t H37 d1_36 (by decide) (pt := 93) (by decide) (by decide) ?_
  refine o_iloadN H37 rfl d1_93 rfl ?_
  refine o_if_t H37 d1_94 (by decide) (pt := 114) (by decide) (by decide) ?_
  have OF : oFit .byte [(own_en bf0 3), (own_en bf1 6), (own_en bf1 1), (own_en bf2 4), (own_en bf3 7), (own_en bf3 2), (own_en bf4 5), (own_en bf4 0)] := by
    intro v hv
    simp only [List.mem_cons, List.not_mem_nil, or_false] at hv
    rcases hv with rfl | rfl | rfl | rfl | rfl | rfl | rfl | rfl <;> exact fits_nar_byte _
  refine o_aloadN H37 rfl rfl d1_114 rfl ?_
  refine o_virtual H37 [] [] (rm5 l Z a0 hw b1 b6 [(own_en bf0 3), (own_en bf1 6), (own_en bf1 1), (own_en bf2 4), (own_en bf3 7), (own_en bf3 2), (own_en bf4 5), (own_en bf4 0)] (8 : Int32) cs h37 n0 H37.le f39 FV37 FC37 FN37 A37 f40 OF rfl (Nat.le_of_ble_eq_true rfl) (S_c.ext (o_kext k38)) hcs) f39 (w27 hw) (w28 hw) (o_nf (w30 hw)) (w30 hw) (w29 hw) (w8 hw) (w31 hw) (by decide) (lenOf pd5 rfl) rfl rfl (by decide) (Nat.le_of_ble_eq_true rfl) (by decide) (by decide) d1_115 rfl ?_
  intro T41 v41 h41 H41 q41
  obtain ⟨r41, b41, rfl, K41, X41, FC41, FV41, A41⟩ := q41
  have k42 := k38.trans K41 all0
  show oG p e below s n0 _ _ _ (T41.setTop (mkF m 118 #[.val (.ref a1), .val (.ref b1), .val (.int bf4), .val (.int (0 : Int32)), .val (.ref a1), .val (.int (5 : Int32)), .val (.int (5 : Int32)), .val (.int x4)] [(.ref r41)]))
  have fin : oA .byte Z h41 b41 (own_enc_5 x0 x1 x2 x3 x4) := by
    have q := A41
    subst e_bf4
    subst e_bf3
    subst e_bf2
    subst e_bf1
    subst e_bf0
    exact q
  exact o_areturn H41 rfl rfl rfl rfl d1_118 (by decide) (by decide) ⟨_, _, rfl, k42, X41, FC41, FV41, fin⟩
set_option maxRecDepth 65536 in
set_option maxHeartbeats 40000000 in
theorem rm1_6 (l : Launch) (Z : State) (a0 : Array Value) (hw : ∀ d ∈ tables_1, d.before a0 Z = true) (a1 : Addr) (al : Addr) (cs : Int32) (x0 x1 x2 x3 x4 x5 : Int32) (h0 : Heap) (n0 : Nat) (Z0 : n0 ≤ h0.size) (AV1 : oA .byte Z h0 a1 [(.int x0), (.int x1), (.int x2), (.int x3), (.int x4), (.int x5)]) (S_a : Sta Z h0 "com/example/encase/encase/codec/Base32" "ALPHABET" "[C" (.ref al)) (AL : oA .char Z h0 al own_alist) (S_c : Sta Z h0 "java/lang/String" "COMPACT_STRINGS" "Z" (.int cs)) (hcs : ¬ cs = 0) :
    oC l Z n0 (⟨"com/example/encase/encase/codec/Base32", "encode", "([B)Ljava/lang/String;"⟩ : MethodName) prog_16_method_2_code 8 (some (.object "java/lang/String")) ({ frames := 5, cells := 6, slots := 60, locals := 90 } : Room) 6 60 #[(.ref a1)] h0 (fun v h => ∃ r b, v = some (.ref r) ∧ Keep h0 h [] ∧ Exa Z h r "java/lang/String" ∧ Fld Z h r "java/lang/String" "coder" "B" (.int 0) ∧ Fld Z h r "java/lang/String" "value" "[B" (.ref b) ∧ oA .byte Z h b (own_enc_6 x0 x1 x2 x3 x4 x5)) := by
  refine oC.of (L := #[.val (.ref a1), .unset, .unset, .unset, .unset, .unset, .unset, .unset]) pn1 Z0 (fun m => by first | (simp [entryFrame, mkF, argsToLocals, Value.category]; done) | rfl) ?_
  intro p e s m below meth c T H
  refine o_new H (w6 hw) (w7 hw) (w8 hw) d1_0 rfl (by decide) (by decide) ?_
  intro T1 h1 b1 g1 H1 E1 A1 D1
  have ne1_al : al ≠ b1 := by rw [g1]; exact Nat.ne_of_lt ((AL.ext (o_kext (Keep.refl h0 [])))).lt
  have ne1_a1 : a1 ≠ b1 := by rw [g1]; exact Nat.ne_of_lt ((AV1.ext (o_kext (Keep.refl h0 [])))).lt
  have z1 : n0 ≤ b1 := by rw [g1]; exact H.le
  have y1 : h0.size ≤ b1 := by rw [g1]; exact (Keep.refl h0 []).1
  have k2 := (Keep.refl h0 []).ext E1
  have f3 : Fld Z h1 b1 "java/lang/AbstractStringBuilder" "value" "[B" .null := D1 (Or.inl (w24 hw)) (ty := (.array .byte)) (by decide)
  have f4 : Fld Z h1 b1 "java/lang/AbstractStringBuilder" "coder" "B" (.int (0 : Int32)) := D1 (Or.inl (w26 hw)) (ty := .byte) (by decide)
  have f5 : Fld Z h1 b1 "java/lang/AbstractStringBuilder" "count" "I" (.int (0 : Int32)) := D1 (Or.inl (w57 hw)) (ty := .int) (by decide)
  refine o_dup H1 rfl d1_3 rfl ?_
  refine o_aloadN H1 rfl rfl d1_4 rfl ?_
  refine o_arraylength H1 (6 : Int32) (AV1.ext (o_kext k2)) rfl d1_5 rfl ?_
  refine o_bipush H1 (8 : Int32) rfl d1_6 rfl ?_
  refine o_imul H1 d1_8 rfl ?_
  refine o_fold (48 : Int32) (by decide) ?_
  refine o_iconst H1 (4 : Int32) rfl d1_9 rfl ?_
  refine o_iadd H1 d1_10 rfl ?_
  refine o_fold (52 : Int32) (by decide) ?_
  refine o_iconst H1 (5 : Int32) rfl d1_11 rfl ?_
  refine o_idiv H1 (by decide) d1_12 rfl ?_
  refine o_fold (10 : Int32) (by decide) ?_
  refine o_special H1 [(.int (10 : Int32))] [(.ref b1)] (rm2 l Z a0 hw b1 (10 : Int32) 10 cs h1 n0 H1.le A1 z1 f3 f4 f5 (by decide) (by decide) (S_c.ext (o_kext k2)) hcs) rfl (w9 hw) (w10 hw) (w8 hw) (w11 hw) (by decide) (lenOf pd2 rfl) rfl rfl (by decide) (Nat.le_of_ble_eq_true rfl) (by decide) (by decide) d1_13 rfl ?_
  intro T6 v6 h6 H6 q6
  obtain ⟨rfl, b6, K6, FV6, FC6, FN6, A6, X6, z6, y06, ne6⟩ := q6
  have k7 := k2.trans K6 (allS (Or.inr y1) all0)
  have f8 := A1.keep K6
  have y6 : h0.size ≤ b6 := Nat.le_trans (k2).1 y06
  have AA6 : oA .byte Z h6 b6 [(.int 0), (.int 0), (.int 0), (.int 0), (.int 0), (.int 0), (.int 0), (.int 0), (.int 0), (.int 0)] := A6
  show oG p e below s n0 _ _ _ (T6.setTop (mkF m 16 #[.val (.ref a1), .unset, .unset, .unset, .unset, .unset, .unset, .unset] [(.ref b1)]))
  refine o_astoreN H6 (L' := #[.val (.ref a1), .val (.ref b1), .unset, .unset, .unset, .unset, .unset, .unset]) rfl rfl d1_16 rfl ?_
  refine o_iconst H6 (0 : Int32) rfl d1_17 rfl ?_
  refine o_istoreN H6 (L' := #[.val (.ref a1), .val (.ref b1), .val (.int (0 : Int32)), .unset, .unset, .unset, .unset, .unset]) rfl d1_18 rfl ?_
  refine o_iconst H6 (0 : Int32) rfl d1_19 rfl ?_
  refine o_istoreN H6 (L' := #[.val (.ref a1), .val (.ref b1), .val (.int (0 : Int32)), .val (.int (0 : Int32)), .unset, .unset, .unset, .unset]) rfl d1_20 rfl ?_
  refine o_aloadN H6 rfl rfl d1_21 rfl ?_
  refine o_astore H6 (L' := #[.val (.ref a1), .val (.ref b1), .val (.int (0 : Int32)), .val (.int (0 : Int32)), .val (.ref a1), .unset, .unset, .unset]) rfl rfl d1_22 rfl ?_
  refine o_aload H6 rfl rfl d1_24 rfl ?_
  refine o_arraylength H6 (6 : Int32) (AV1.ext (o_kext k7)) rfl d1_26 rfl ?_
  refine o_istore H6 (L' := #[.val (.ref a1), .val (.ref b1), .val (.int (0 : Int32)), .val (.int (0 : Int32)), .val (.ref a1), .val (.int (6 : Int32)), .unset, .unset]) rfl d1_27 rfl ?_
  refine o_iconst H6 (0 : Int32) rfl d1_29 rfl ?_
  refine o_istore H6 (L' := #[.val (.ref a1), .val (.ref b1), .val (.int (0 : Int32)), .val (.int (0 : Int32)), .val (.ref a1), .val (.int (6 : Int32)), .val (.int (0 : Int32)), .unset]) rfl d1_30 rfl ?_
  obtain ⟨bf0, e_bf0⟩ : ∃ z : Int32, z = own_bf (0 : Int32) x0 := ⟨_, rfl⟩
  refine rmB l Z a0 hw a1 b1 _ h6 n0 _ 0 (0 : Int32) bf0 (0 : Int32) (8 : Int32) (0 : Int32) (6 : Int32) x0 _ (AV1.ext (o_kext k7)) (by decide) (by decide) rfl e_bf0.symm (by decide) (Or.inl rfl) p e s m below meth c T6 H6 ?_
  refine rmC l Z a0 hw a1 b1 b6 al _ h6 n0 bf0 (8 : Int32) (3 : Int32) (0 : Int32) (6 : Int32) (0 : Int32) (1 : Int32) cs [(.int 0), (.int 0), (.int 0), (.int 0), (.int 0), (.int 0), (.int 0), (.int 0), (.int 0), (.int 0)] [(own_en bf0 3), (.int 0), (.int 0), (.int 0), (.int 0), (.int 0), (.int 0), (.int 0), (.int 0), (.int 0)] 0 _ (by decide) (by decide) f8 z1 FV6 FC6 FN6 AA6 z6 ne6 (by decide) (Nat.le_of_ble_eq_true rfl) (Nat.le_of_ble_eq_true rfl) (by decide) rfl (S_a.ext (o_kext k7)) (AL.ext (o_kext k7)) (S_c.ext (o_kext k7)) hcs p e s m below meth c T6 H6 ?_
  intro T9 h9 H9 K9 FV9 FC9 FN9 A9
  have k10 := k7.trans K9 (allS (Or.inr y1) (allS (Or.inr y6) all0))
  have f11 := f8.keep K9
  have f12 := X6.keep K9
  refine rmE l Z a0 hw a1 b1 _ h9 n0 bf0 (3 : Int32) (0 : Int32) (1 : Int32) (6 : Int32) _ (by decide) (by decide) p e s m below meth c T9 H9 ?_
  obtain ⟨bf1, e_bf1⟩ : ∃ z : Int32, z = own_bf bf0 x1 := ⟨_, rfl⟩
  refine rmB l Z a0 hw a1 b1 _ h9 n0 _ 1 bf0 bf1 (3 : Int32) (11 : Int32) (1 : Int32) (6 : Int32) x1 _ (AV1.ext (o_kext k10)) (by decide) (by decide) rfl e_bf1.symm (by decide) (Or.inr ⟨_, rfl⟩) p e s m below meth c T9 H9 ?_
  refine rmC l Z a0 hw a1 b1 b6 al _ h9 n0 bf1 (11 : Int32) (6 : Int32) (1 : Int32) (6 : Int32) (1 : Int32) (2 : Int32) cs [(own_en bf0 3), (.int 0), (.int 0), (.int 0), (.int 0), (.int 0), (.int 0), (.int 0), (.int 0), (.int 0)] [(own_en bf0 3), (own_en bf1 6), (.int 0), (.int 0), (.int 0), (.int 0), (.int 0), (.int 0), (.int 0), (.int 0)] 1 _ (by decide) (by decide) f11 z1 FV9 FC9 FN9 A9 z6 ne6 (by decide) (Nat.le_of_ble_eq_true rfl) (Nat.le_of_ble_eq_true rfl) (by decide) rfl (S_a.ext (o_kext k10)) (AL.ext (o_kext k10)) (S_c.ext (o_kext k10)) hcs p e s m below meth c T9 H9 ?_
  intro T13 h13 H13 K13 FV13 FC13 FN13 A13
  have k14 := k10.trans K13 (allS (Or.inr y1) (allS (Or.inr y6) all0))
  have f15 := f11.keep K13
  have f16 := f12.keep K13
  refine rmC l Z a0 hw a1 b1 b6 al _ h13 n0 bf1 (6 : Int32) (1 : Int32) (1 : Int32) (6 : Int32) (2 : Int32) (3 : Int32) cs [(own_en bf0 3), (own_en bf1 6), (.int 0), (.int 0), (.int 0), (.int 0), (.int 0), (.int 0), (.int 0), (.int 0)] [(own_en bf0 3), (own_en bf1 6), (own_en bf1 1), (.int 0), (.int 0), (.int 0), (.int 0), (.int 0), (.int 0), (.int 0)] 2 _ (by decide) (by decide) f15 z1 FV13 FC13 FN13 A13 z6 ne6 (by decide) (Nat.le_of_ble_eq_true rfl) (Nat.le_of_ble_eq_true rfl) (by decide) rfl (S_a.ext (o_kext k14)) (AL.ext (o_kext k14)) (S_c.ext (o_kext k14)) hcs p e s m below meth c T13 H13 ?_
  intro T17 h17 H17 K17 FV17 FC17 FN17 A17
  have k18 := k14.trans K17 (allS (Or.inr y1) (allS (Or.inr y6) all0))
  have f19 := f15.keep K17
  have f20 := f16.keep K17
  refine rmE l Z a0 hw a1 b1 _ h17 n0 bf1 (1 : Int32) (1 : Int32) (2 : Int32) (6 : Int32) _ (by decide) (by decide) p e s m below meth c T17 H17 ?_
  obtain ⟨bf2, e_bf2⟩ : ∃ z : Int32, z = own_bf bf1 x2 := ⟨_, rfl⟩
  refine rmB l Z a0 hw a1 b1 _ h17 n0 _ 2 bf1 bf2 (1 : Int32) (9 : Int32) (2 : Int32) (6 : Int32) x2 _ (AV1.ext (o_kext k18)) (by decide) (by decide) rfl e_bf2.symm (by decide) (Or.inr ⟨_, rfl⟩) p e s m below meth c T17 H17 ?_
  refine rmC l Z a0 hw a1 b1 b6 al _ h17 n0 bf2 (9 : Int32) (4 : Int32) (2 : Int32) (6 : Int32) (3 : Int32) (4 : Int32) cs [(own_en bf0 3), (own_en bf1 6), (own_en bf1 1), (.int 0), (.int 0), (.int 0), (.int 0), (.int 0), (.int 0), (.int 0)] [(own_en bf0 3), (own_en bf1 6), (own_en bf1 1), (own_en bf2 4), (.int 0), (.int 0), (.int 0), (.int 0), (.int 0), (.int 0)] 3 _ (by decide) (by decide) f19 z1 FV17 FC17 FN17 A17 z6 ne6 (by decide) (Nat.le_of_ble_eq_true rfl) (Nat.le_of_ble_eq_true rfl) (by decide) rfl (S_a.ext (o_kext k18)) (AL.ext (o_kext k18)) (S_c.ext (o_kext k18)) hcs p e s m below meth c T17 H17 ?_
  intro T21 h21 H21 K21 FV21 FC21 FN21 A21
  have k22 := k18.trans K21 (allS (Or.inr y1) (allS (Or.inr y6) all0))
  have f23 := f19.keep K21
  have f24 := f20.keep K21
  refine rmE l Z a0 hw a1 b1 _ h21 n0 bf2 (4 : Int32) (2 : Int32) (3 : Int32) (6 : Int32) _ (by decide) (by decide) p e s m below meth c T21 H21 ?_
  obtain ⟨bf3, e_bf3⟩ : ∃ z : Int32, z = own_bf bf2 x3 := ⟨_, rfl⟩
  refine rmB l Z a0 hw a1 b1 _ h21 n0 _ 3 bf2 bf3 (4 : Int32) (12 : Int32) (3 : Int32) (6 : Int32) x3 _ (AV1.ext (o_kext k22)) (by decide) (by decide) rfl e_bf3.symm (by decide) (Or.inr ⟨_, rfl⟩) p e s m below meth c T21 H21 ?_
  refine rmC l Z a0 hw a1 b1 b6 al _ h21 n0 bf3 (12 : Int32) (7 : Int32) (3 : Int32) (6 : Int32) (4 : Int32) (5 : Int32) cs [(own_en bf0 3), (own_en bf1 6), (own_en bf1 1), (own_en bf2 4), (.int 0), (.int 0), (.int 0), (.int 0), (.int 0), (.int 0)] [(own_en bf0 3), (own_en bf1 6), (own_en bf1 1), (own_en bf2 4), (own_en bf3 7), (.int 0), (.int 0), (.int 0), (.int 0), (.int 0)] 4 _ (by decide) (by decide) f23 z1 FV21 FC21 FN21 A21 z6 ne6 (by decide) (Nat.le_of_ble_eq_true rfl) (Nat.le_of_ble_eq_true rfl) (by decide) rfl (S_a.ext (o_kext k22)) (AL.ext (o_kext k22)) (S_c.ext (o_kext k22)) hcs p e s m below meth c T21 H21 ?_
  intro T25 h25 H25 K25 FV25 FC25 FN25 A25
  have k26 := k22.trans K25 (allS (Or.inr y1) (allS (Or.inr y6) all0))
  have f27 := f23.keep K25
  have f28 := f24.keep K25
  refine rmC l Z a0 hw a1 b1 b6 al _ h25 n0 bf3 (7 : Int32) (2 : Int32) (3 : Int32) (6 : Int32) (5 : Int32) (6 : Int32) cs [(own_en bf0 3), (own_en bf1 6), (own_en bf1 1), (own_en bf2 4), (own_en bf3 7), (.int 0), (.int 0), (.int 0), (.int 0), (.int 0)] [(own_en bf0 3), (own_en bf1 6), (own_en bf1 1), (own_en bf2 4), (own_en bf3 7), (own_en bf3 2), (.int 0), (.int 0), (.int 0), (.int 0)] 5 _ (by decide) (by decide) f27 z1 FV25 FC25 FN25 A25 z6 ne6 (by decide) (Nat.le_of_ble_eq_true rfl) (Nat.le_of_ble_eq_true rfl) (by decide) rfl (S_a.ext (o_kext k26)) (AL.ext (o_kext k26)) (S_c.ext (o_kext k26)) hcs p e s m below meth c T25 H25 ?_
  intro T29 h29 H29 K29 FV29 FC29 FN29 A29
  have k30 := k26.trans K29 (allS (Or.inr y1) (allS (Or.inr y6) all0))
  have f31 := f27.keep K29
  have f32 := f28.keep K29
  refine rmE l Z a0 hw a1 b1 _ h29 n0 bf3 (2 : Int32) (3 : Int32) (4 : Int32) (6 : Int32) _ (by decide) (by decide) p e s m below meth c T29 H29 ?_
  obtain ⟨bf4, e_bf4⟩ : ∃ z : Int32, z = own_bf bf3 x4 := ⟨_, rfl⟩
  refine rmB l Z a0 hw a1 b1 _ h29 n0 _ 4 bf3 bf4 (2 : Int32) (10 : Int32) (4 : Int32) (6 : Int32) x4 _ (AV1.ext (o_kext k30)) (by decide) (by decide) rfl e_bf4.symm (by decide) (Or.inr ⟨_, rfl⟩) p e s m below meth c T29 H29 ?_
  refine rmC l Z a0 hw a1 b1 b6 al _ h29 n0 bf4 (10 : Int32) (5 : Int32) (4 : Int32) (6 : Int32) (6 : Int32) (7 : Int32) cs [(own_en bf0 3), (own_en bf1 6), (own_en bf1 1), (own_en bf2 4), (own_en bf3 7), (own_en bf3 2), (.int 0), (.int 0), (.int 0), (.int 0)] [(own_en bf0 3), (own_en bf1 6), (own_en bf1 1), (own_en bf2 4), (own_en bf3 7), (own_en bf3 2), (own_en bf4 5), (.int 0), (.int 0), (.int 0)] 6 _ (by decide) (by decide) f31 z1 FV29 FC29 FN29 A29 z6 ne6 (by decide) (Nat.le_of_ble_eq_true rfl) (Nat.le_of_ble_eq_true rfl) (by decide) rfl (S_a.ext (o_kext k30)) (AL.ext (o_kext k30)) (S_c.ext (o_kext k30)) hcs p e s m below meth c T29 H29 ?_
  intro T33 h33 H33 K33 FV33 FC33 FN33 A33
  have k34 := k30.trans K33 (allS (Or.inr y1) (allS (Or.inr y6) all0))
  have f35 := f31.keep K33
  have f36 := f32.keep K33
  refine rmC l Z a0 hw a1 b1 b6 al _ h33 n0 bf4 (5 : Int32) (0 : Int32) (4 : Int32) (6 : Int32) (7 : Int32) (8 : Int32) cs [(own_en bf0 3), (own_en bf1 6), (own_en bf1 1), (own_en bf2 4), (own_en bf3 7), (own_en bf3 2), (own_en bf4 5), (.int 0), (.int 0), (.int 0)] [(own_en bf0 3), (own_en bf1 6), (own_en bf1 1), (own_en bf2 4), (own_en bf3 7), (own_en bf3 2), (own_en bf4 5), (own_en bf4 0), (.int 0), (.int 0)] 7 _ (by decide) (by decide) f35 z1 FV33 FC33 FN33 A33 z6 ne6 (by decide) (Nat.le_of_ble_eq_true rfl) (Nat.le_of_ble_eq_true rfl) (by decide) rfl (S_a.ext (o_kext k34)) (AL.ext (o_kext k34)) (S_c.ext (o_kext k34)) hcs p e s m below meth c T33 H33 ?_
  intro T37 h37 H37 K37 FV37 FC37 FN37 A37
  have k38 := k34.trans K37 (allS (Or.inr y1) (allS (Or.inr y6) all0))
  have f39 := f35.keep K37
  have f40 := f36.keep K37
  refine rmE l Z a0 hw a1 b1 _ h37 n0 bf4 (0 : Int32) (4 : Int32) (5 : Int32) (6 : Int32) _ (by decide) (by decide) p e s m below meth c T37 H37 ?_
  obtain ⟨bf5, e_bf5⟩ : ∃ z : Int32, z = own_bf bf4 x5 := ⟨_, rfl⟩
  refine rmB l Z a0 hw a1 b1 _ h37 n0 _ 5 bf4 bf5 (0 : Int32) (8 : Int32) (5 : Int32) (6 : Int32) x5 _ (AV1.ext (o_kext k38)) (by decide) (by decide) rfl e_bf5.symm (by decide) (Or.inr ⟨_, rfl⟩) p e s m below meth c T37 H37 ?_
  refine rmC l Z a0 hw a1 b1 b6 al _ h37 n0 bf5 (8 : Int32) (3 : Int32) (5 : Int32) (6 : Int32) (8 : Int32) (9 : Int32) cs [(own_en bf0 3), (own_en bf1 6), (own_en bf1 1), (own_en bf2 4), (own_en bf3 7), (own_en bf3 2), (own_en bf4 5), (own_en bf4 0), (.int 0), (.int 0)] [(own_en bf0 3), (own_en bf1 6), (own_en bf1 1), (own_en bf2 4), (own_en bf3 7), (own_en bf3 2), (own_en bf4 5), (own_en bf4 0), (own_en bf5 3), (.int 0)] 8 _ (by decide) (by decide) f39 z1 FV37 FC37 FN37 A37 z6 ne6 (by decide) (Nat.le_of_ble_eq_true rfl) (Nat.le_of_ble_eq_true rfl) (by decide) rfl (S_a.ext (o_kext k38)) (AL.ext (o_kext k38)) (S_c.ext (o_kext k38)) hcs p e s m below meth c T37 H37 ?_
  intro T41 h41 H41 K41 FV41 FC41 FN41 A41
  have k42 := k38.trans K41 (allS (Or.inr y1) (allS (Or.inr y6) all0))
  have f43 := f39.keep K41
  have f44 := f40.keep K41
  refine rmE l Z a0 hw a1 b1 _ h41 n0 bf5 (3 : Int32) (5 : Int32) (6 : Int32) (6 : Int32) _ (by decide) (by decide) p e s m below meth c T41 H41 ?_
  refine o_iload H41 rfl d1_32 rfl ?_
  refine o_iload H41 rfl d1_34 rfl ?_
  refine o_icmp_t H41 d1_36 (by decide) (pt := 93) (by decide) (by decide) ?_
  refine o_iloadN H41 rfl d1_93 rfl ?_
  refine o_if_f H41 d1_94 (by decide) rfl ?_
  refine o_aloadN H41 rfl rfl d1_97 rfl ?_
  refine o_getS H41 (host := "") (Or.inl (w115 hw)) (S_a.ext (o_kext k42)) d1_98 rfl ?_
  intro T45 H46
  refine o_iloadN H46 rfl d1_101 rfl ?_
  refine o_iconst H46 (5 : Int32) rfl d1_102 rfl ?_
  refine o_iloadN H46 rfl d1_103 rfl ?_
  refine o_isub H46 d1_104 rfl ?_
  refine o_fold (2 : Int32) (by decide) ?_
  refine o_ishl H46 d1_105 rfl ?_
  refine o_bipush H46 (31 : Int32) rfl d1_106 rfl ?_
  refine o_iand H46 d1_108 rfl ?_
  refine o_caload H46 ((((bf5 <<< ((2 : Int32) &&& 31)) &&& (31 : Int32))).toInt.toNat) (.int (own_al ((bf5 <<< ((2 : Int32) &&& 31)) &&& (31 : Int32)))) (AL.ext (o_kext k42)) (own_ix1 (bf5 <<< ((2 : Int32) &&& 31))) (own_ix2 (bf5 <<< ((2 : Int32) &&& 31))) d1_109 rfl ?_
  obtain ⟨ch9, e_ch9⟩ : ∃ z : Int32, z = (own_al ((bf5 <<< ((2 : Int32) &&& 31)) &&& (31 : Int32))) := ⟨_, rfl⟩
  rw [← e_ch9]
  have hc_ch9 : ¬ 255 < ch9 := by rw [e_ch9]; exact own_al255 _
  refine o_virtual H46 [(.int ch9)] [] (rm21 l Z a0 hw b1 ch9 b6 [(own_en bf0 3), (own_en bf1 6), (own_en bf1 1), (own_en bf2 4), (own_en bf3 7), (own_en bf3 2), (own_en bf4 5), (own_en bf4 0), (own_en bf5 3), (.int 0)] (9 : Int32) 9 cs h41 n0 H46.le f43 z1 FV41 FC41 FN41 A41 z6 ne6 (by decide) (Nat.le_of_ble_eq_true rfl) (Nat.le_of_ble_eq_true rfl) hc_ch9 (S_c.ext (o_kext k42)) hcs) f43 (w117 hw) (w118 hw) (o_nf (w120 hw)) (w120 hw) (w119 hw) (w8 hw) (w121 hw) (by decide) (lenOf pd21 rfl) rfl rfl (by decide) (Nat.le_of_ble_eq_true rfl) (by decide) (by decide) d1_110 rfl ?_
  intro T47 v47 h47 H47 q47
  obtain ⟨rfl, K47, FV47, FC47, FN47, A47⟩ := q47
  have k48 := k42.trans K47 (allS (Or.inr y1) (allS (Or.inr y6) all0))
  have f49 := f43.keep K47
  have f50 := f44.keep K47
  have FO47 : Fld Z h47 b1 "java/lang/AbstractStringBuilder" "count" "I" (.int (10 : Int32)) := FN47
  have AO47 : oA .byte Z h47 b6 [(own_en bf0 3), (own_en bf1 6), (own_en bf1 1), (own_en bf2 4), (own_en bf3 7), (own_en bf3 2), (own_en bf4 5), (own_en bf4 0), (own_en bf5 3), (.int (nar .byte ch9.toInt8.toInt32))] := A47
  show oG p e below s n0 _ _ _ (T47.setTop (mkF m 113 #[.val (.ref a1), .val (.ref b1), .val (.int bf5), .val (.int (3 : Int32)), .val (.ref a1), .val (.int (6 : Int32)), .val (.int (6 : Int32)), .val (.int x5)] [(.ref b1)]))
  refine o_pop H47 rfl d1_113 rfl ?_
  have OF : oFit .byte [(own_en bf0 3), (own_en bf1 6), (own_en bf1 1), (own_en bf2 4), (own_en bf3 7), (own_en bf3 2), (own_en bf4 5), (own_en bf4 0), (own_en bf5 3), (.int (nar .byte ch9.toInt8.toInt32))] := by
    intro v hv
    simp only [List.mem_cons, List.not_mem_nil, or_false] at hv
    rcases hv with rfl | rfl | rfl | rfl | rfl | rfl | rfl | rfl | rfl | rfl <;> exact fits_nar_byte _
  refine o_aloadN H47 rfl rfl d1_114 rfl ?_
  refine o_virtual H47 [] [] (rm5 l Z a0 hw b1 b6 [(own_en bf0 3), (own_en bf1 6), (own_en bf1 1), (own_en bf2 4), (own_en bf3 7), (own_en bf3 2), (own_en bf4 5), (own_en bf4 0), (own_en bf5 3), (.int (nar .byte ch9.toInt8.toInt32))] (10 : Int32) cs h47 n0 H47.le f49 FV47 FC47 FO47 AO47 f50 OF rfl (Nat.le_of_ble_eq_true rfl) (S_c.ext (o_kext k48)) hcs) f49 (w27 hw) (w28 hw) (o_nf (w30 hw)) (w30 hw) (w29 hw) (w8 hw) (w31 hw) (by decide) (lenOf pd5 rfl) rfl rfl (by decide) (Nat.le_of_ble_eq_true rfl) (by decide) (by decide) d1_115 rfl ?_
  intro T51 v51 h51 H51 q51
  obtain ⟨r51, b51, rfl, K51, X51, FC51, FV51, A51⟩ := q51
  have k52 := k48.trans K51 all0
  show oG p e below s n0 _ _ _ (T51.setTop (mkF m 118 #[.val (.ref a1), .val (.ref b1), .val (.int bf5), .val (.int (3 : Int32)), .val (.ref a1), .val (.int (6 : Int32)), .val (.int (6 : Int32)), .val (.int x5)] [(.ref r51)]))
  have fin : oA .byte Z h51 b51 (own_enc_6 x0 x1 x2 x3 x4 x5) := by
    have q := A51
    subst e_ch9
    subst e_bf5
    subst e_bf4
    subst e_bf3
    subst e_bf2
    subst e_bf1
    subst e_bf0
    exact q
  exact o_areturn H51 rfl rfl rfl rfl d1_118 (by decide) (by decide) ⟨_, _, rfl, k52, X51, FC51, FV51, fin⟩
set_option maxRecDepth 65536 in
set_option maxHeartbeats 40000000 in
theorem rm1_7 (l : Launch) (Z : State) (a0 : Array Value) (hw : ∀ d ∈ tables_1, d.before a0 Z = true) (a1 : Addr) (al : Addr) (cs : Int32) (x0 x1 x2 x3 x4 x5 x6 : Int32) (h0 : Heap) (n0 : Nat) (Z0 : n0 ≤ h0.size) (AV1 : oA .byte Z h0 a1 [(.int x0), (.int x1), (.int x2), (.int x3), (.int x4), (.int x5), (.int x6)]) (S_a : Sta Z h0 "com/example/encase/encase/codec/Base32" "ALPHABET" "[C" (.ref al)) (AL : oA .char Z h0 al own_alist) (S_c : Sta Z h0 "java/lang/String" "COMPACT_STRINGS" "Z" (.int cs)) (hcs : ¬ cs = 0) :
    oC l Z n0 (⟨"com/example/encase/encase/codec/Base32", "encode", "([B)Ljava/lang/String;"⟩ : MethodName) prog_16_method_2_code 8 (some (.object "java/lang/String")) ({ frames := 5, cells := 6, slots := 60, locals := 90 } : Room) 6 60 #[(.ref a1)] h0 (fun v h => ∃ r b, v = some (.ref r) ∧ Keep h0 h [] ∧ Exa Z h r "java/lang/String" ∧ Fld Z h r "java/lang/String" "coder" "B" (.int 0) ∧ Fld Z h r "java/lang/String" "value" "[B" (.ref b) ∧ oA .byte Z h b (own_enc_7 x0 x1 x2 x3 x4 x5 x6)) := by
  refine oC.of (L := #[.val (.ref a1), .unset, .unset, .unset, .unset, .unset, .unset, .unset]) pn1 Z0 (fun m => by first | (simp [entryFrame, mkF, argsToLocals, Value.category]; done) | rfl) ?_
  intro p e s m below meth c T H
  refine o_new H (w6 hw) (w7 hw) (w8 hw) d1_0 rfl (by decide) (by decide) ?_
  intro T1 h1 b1 g1 H1 E1 A1 D1
  have ne1_al : al ≠ b1 := by rw [g1]; exact Nat.ne_of_lt ((AL.ext (o_kext (Keep.refl h0 [])))).lt
  have ne1_a1 : a1 ≠ b1 := by rw [g1]; exact Nat.ne_of_lt ((AV1.ext (o_kext (Keep.refl h0 [])))).lt
  have z1 : n0 ≤ b1 := by rw [g1]; exact H.le
  have y1 : h0.size ≤ b1 := by rw [g1]; exact (Keep.refl h0 []).1
  have k2 := (Keep.refl h0 []).ext E1
  have f3 : Fld Z h1 b1 "java/lang/AbstractStringBuilder" "value" "[B" .null := D1 (Or.inl (w24 hw)) (ty := (.array .byte)) (by decide)
  have f4 : Fld Z h1 b1 "java/lang/AbstractStringBuilder" "coder" "B" (.int (0 : Int32)) := D1 (Or.inl (w26 hw)) (ty := .byte) (by decide)
  have f5 : Fld Z h1 b1 "java/lang/AbstractStringBuilder" "count" "I" (.int (0 : Int32)) := D1 (Or.inl (w57 hw)) (ty := .int) (by decide)
  refine o_dup H1 rfl d1_3 rfl ?_
  refine o_aloadN H1 rfl rfl d1_4 rfl ?_
  refine o_arraylength H1 (7 : Int32) (AV1.ext (o_kext k2)) rfl d1_5 rfl ?_
  refine o_bipush H1 (8 : Int32) rfl d1_6 rfl ?_
  refine o_imul H1 d1_8 rfl ?_
  refine o_fold (56 : Int32) (by decide) ?_
  refine o_iconst H1 (4 : Int32) rfl d1_9 rfl ?_
  refine o_iadd H1 d1_10 rfl ?_
  refine o_fold (60 : Int32) (by decide) ?_
  refine o_iconst H1 (5 : Int32) rfl d1_11 rfl ?_
  refine o_idiv H1 (by decide) d1_12 rfl ?_
  refine o_fold (12 : Int32) (by decide) ?_
  refine o_special H1 [(.int (12 : Int32))] [(.ref b1)] (rm2 l Z a0 hw b1 (12 : Int32) 12 cs h1 n0 H1.le A1 z1 f3 f4 f5 (by decide) (by decide) (S_c.ext (o_kext k2)) hcs) rfl (w9 hw) (w10 hw) (w8 hw) (w11 hw) (by decide) (lenOf pd2 rfl) rfl rfl (by decide) (Nat.le_of_ble_eq_true rfl) (by decide) (by decide) d1_13 rfl ?_
  intro T6 v6 h6 H6 q6
  obtain ⟨rfl, b6, K6, FV6, FC6, FN6, A6, X6, z6, y06, ne6⟩ := q6
  have k7 := k2.trans K6 (allS (Or.inr y1) all0)
  have f8 := A1.keep K6
  have y6 : h0.size ≤ b6 := Nat.le_trans (k2).1 y06
  have AA6 : oA .byte Z h6 b6 [(.int 0), (.int 0), (.int 0), (.int 0), (.int 0), (.int 0), (.int 0), (.int 0), (.int 0), (.int 0), (.int 0), (.int 0)] := A6
  show oG p e below s n0 _ _ _ (T6.setTop (mkF m 16 #[.val (.ref a1), .unset, .unset, .unset, .unset, .unset, .unset, .unset] [(.ref b1)]))
  refine o_astoreN H6 (L' := #[.val (.ref a1), .val (.ref b1), .unset, .unset, .unset, .unset, .unset, .unset]) rfl rfl d1_16 rfl ?_
  refine o_iconst H6 (0 : Int32) rfl d1_17 rfl ?_
  refine o_istoreN H6 (L' := #[.val (.ref a1), .val (.ref b1), .val (.int (0 : Int32)), .unset, .unset, .unset, .unset, .unset]) rfl d1_18 rfl ?_
  refine o_iconst H6 (0 : Int32) rfl d1_19 rfl ?_
  refine o_istoreN H6 (L' := #[.val (.ref a1), .val (.ref b1), .val (.int (0 : Int32)), .val (.int (0 : Int32)), .unset, .unset, .unset, .unset]) rfl d1_20 rfl ?_
  refine o_aloadN H6 rfl rfl d1_21 rfl ?_
  refine o_astore H6 (L' := #[.val (.ref a1), .val (.ref b1), .val (.int (0 : Int32)), .val (.int (0 : Int32)), .val (.ref a1), .unset, .unset, .unset]) rfl rfl d1_22 rfl ?_
  refine o_aload H6 rfl rfl d1_24 rfl ?_
  refine o_arraylength H6 (7 : Int32) (AV1.ext (o_kext k7)) rfl d1_26 rfl ?_
  refine o_istore H6 (L' := #[.val (.ref a1), .val (.ref b1), .val (.int (0 : Int32)), .val (.int (0 : Int32)), .val (.ref a1), .val (.int (7 : Int32)), .unset, .unset]) rfl d1_27 rfl ?_
  refine o_iconst H6 (0 : Int32) rfl d1_29 rfl ?_
  refine o_istore H6 (L' := #[.val (.ref a1), .val (.ref b1), .val (.int (0 : Int32)), .val (.int (0 : Int32)), .val (.ref a1), .val (.int (7 : Int32)), .val (.int (0 : Int32)), .unset]) rfl d1_30 rfl ?_
  obtain ⟨bf0, e_bf0⟩ : ∃ z : Int32, z = own_bf (0 : Int32) x0 := ⟨_, rfl⟩
  refine rmB l Z a0 hw a1 b1 _ h6 n0 _ 0 (0 : Int32) bf0 (0 : Int32) (8 : Int32) (0 : Int32) (7 : Int32) x0 _ (AV1.ext (o_kext k7)) (by decide) (by decide) rfl e_bf0.symm (by decide) (Or.inl rfl) p e s m below meth c T6 H6 ?_
  refine rmC l Z a0 hw a1 b1 b6 al _ h6 n0 bf0 (8 : Int32) (3 : Int32) (0 : Int32) (7 : Int32) (0 : Int32) (1 : Int32) cs [(.int 0), (.int 0), (.int 0), (.int 0), (.int 0), (.int 0), (.int 0), (.int 0), (.int 0), (.int 0), (.int 0), (.int 0)] [(own_en bf0 3), (.int 0), (.int 0), (.int 0), (.int 0), (.int 0), (.int 0), (.int 0), (.int 0), (.int 0), (.int 0), (.int 0)] 0 _ (by decide) (by decide) f8 z1 FV6 FC6 FN6 AA6 z6 ne6 (by decide) (Nat.le_of_ble_eq_true rfl) (Nat.le_of_ble_eq_true rfl) (by decide) rfl (S_a.ext (o_kext k7)) (AL.ext (o_kext k7)) (S_c.ext (o_kext k7)) hcs p e s m below meth c T6 H6 ?_
  intro T9 h9 H9 K9 FV9 FC9 FN9 A9
  have k10 := k7.trans K9 (allS (Or.inr y1) (allS (Or.inr y6) all0))
  have f11 := f8.keep K9
  have f12 := X6.keep K9
  refine rmE l Z a0 hw a1 b1 _ h9 n0 bf0 (3 : Int32) (0 : Int32) (1 : Int32) (7 : Int32) _ (by decide) (by decide) p e s m below meth c T9 H9 ?_
  obtain ⟨bf1, e_bf1⟩ : ∃ z : Int32, z = own_bf bf0 x1 := ⟨_, rfl⟩
  refine rmB l Z a0 hw a1 b1 _ h9 n0 _ 1 bf0 bf1 (3 : Int32) (11 : Int32) (1 : Int32) (7 : Int32) x1 _ (AV1.ext (o_kext k10)) (by decide) (by decide) rfl e_bf1.symm (by decide) (Or.inr ⟨_, rfl⟩) p e s m below meth c T9 H9 ?_
  refine rmC l Z a0 hw a1 b1 b6 al _ h9 n0 bf1 (11 : Int32) (6 : Int32) (1 : Int32) (7 : Int32) (1 : Int32) (2 : Int32) cs [(own_en bf0 3), (.int 0), (.int 0), (.int 0), (.int 0), (.int 0), (.int 0), (.int 0), (.int 0), (.int 0), (.int 0), (.int 0)] [(own_en bf0 3), (own_en bf1 6), (.int 0), (.int 0), (.int 0), (.int 0), (.int 0), (.int 0), (.int 0), (.int 0), (.int 0), (.int 0)] 1 _ (by decide) (by decide) f11 z1 FV9 FC9 FN9 A9 z6 ne6 (by decide) (Nat.le_of_ble_eq_true rfl) (Nat.le_of_ble_eq_true rfl) (by decide) rfl (S_a.ext (o_kext k10)) (AL.ext (o_kext k10)) (S_c.ext (o_kext k10)) hcs p e s m below meth c T9 H9 ?_
  intro T13 h13 H13 K13 FV13 FC13 FN13 A13
  have k14 := k10.trans K13 (allS (Or.inr y1) (allS (Or.inr y6) all0))
  have f15 := f11.keep K13
  have f16 := f12.keep K13
  refine rmC l Z a0 hw a1 b1 b6 al _ h13 n0 bf1 (6 : Int32) (1 : Int32) (1 : Int32) (7 : Int32) (2 : Int32) (3 : Int32) cs [(own_en bf0 3), (own_en bf1 6), (.int 0), (.int 0), (.int 0), (.int 0), (.int 0), (.int 0), (.int 0), (.int 0), (.int 0), (.int 0)] [(own_en bf0 3), (own_en bf1 6), (own_en bf1 1), (.int 0), (.int 0), (.int 0), (.int 0), (.int 0), (.int 0), (.int 0), (.int 0), (.int 0)] 2 _ (by decide) (by decide) f15 z1 FV13 FC13 FN13 A13 z6 ne6 (by decide) (Nat.le_of_ble_eq_true rfl) (Nat.le_of_ble_eq_true rfl) (by decide) rfl (S_a.ext (o_kext k14)) (AL.ext (o_kext k14)) (S_c.ext (o_kext k14)) hcs p e s m below meth c T13 H13 ?_
  intro T17 h17 H17 K17 FV17 FC17 FN17 A17
  have k18 := k14.trans K17 (allS (Or.inr y1) (allS (Or.inr y6) all0))
  have f19 := f15.keep K17
  have f20 := f16.keep K17
  refine rmE l Z a0 hw a1 b1 _ h17 n0 bf1 (1 : Int32) (1 : Int32) (2 : Int32) (7 : Int32) _ (by decide) (by decide) p e s m below meth c T17 H17 ?_
  obtain ⟨bf2, e_bf2⟩ : ∃ z : Int32, z = own_bf bf1 x2 := ⟨_, rfl⟩
  refine rmB l Z a0 hw a1 b1 _ h17 n0 _ 2 bf1 bf2 (1 : Int32) (9 : Int32) (2 : Int32) (7 : Int32) x2 _ (AV1.ext (o_kext k18)) (by decide) (by decide) rfl e_bf2.symm (by decide) (Or.inr ⟨_, rfl⟩) p e s m below meth c T17 H17 ?_
  refine rmC l Z a0 hw a1 b1 b6 al _ h17 n0 bf2 (9 : Int32) (4 : Int32) (2 : Int32) (7 : Int32) (3 : Int32) (4 : Int32) cs [(own_en bf0 3), (own_en bf1 6), (own_en bf1 1), (.int 0), (.int 0), (.int 0), (.int 0), (.int 0), (.int 0), (.int 0), (.int 0), (.int 0)] [(own_en bf0 3), (own_en bf1 6), (own_en bf1 1), (own_en bf2 4), (.int 0), (.int 0), (.int 0), (.int 0), (.int 0), (.int 0), (.int 0), (.int 0)] 3 _ (by decide) (by decide) f19 z1 FV17 FC17 FN17 A17 z6 ne6 (by decide) (Nat.le_of_ble_eq_true rfl) (Nat.le_of_ble_eq_true rfl) (by decide) rfl (S_a.ext (o_kext k18)) (AL.ext (o_kext k18)) (S_c.ext (o_kext k18)) hcs p e s m below meth c T17 H17 ?_
  intro T21 h21 H21 K21 FV21 FC21 FN21 A21
  have k22 := k18.trans K21 (allS (Or.inr y1) (allS (Or.inr y6) all0))
  have f23 := f19.keep K21
  have f24 := f20.keep K21
  refine rmE l Z a0 hw a1 b1 _ h21 n0 bf2 (4 : Int32) (2 : Int32) (3 : Int32) (7 : Int32) _ (by decide) (by decide) p e s m below meth c T21 H21 ?_
  obtain ⟨bf3, e_bf3⟩ : ∃ z : Int32, z = own_bf bf2 x3 := ⟨_, rfl⟩
  refine rmB l Z a0 hw a1 b1 _ h21 n0 _ 3 bf2 bf3 (4 : Int32) (12 : Int32) (3 : Int32) (7 : Int32) x3 _ (AV1.ext (o_kext k22)) (by decide) (by decide) rfl e_bf3.symm (by decide) (Or.inr ⟨_, rfl⟩) p e s m below meth c T21 H21 ?_
  refine rmC l Z a0 hw a1 b1 b6 al _ h21 n0 bf3 (12 : Int32) (7 : Int32) (3 : Int32) (7 : Int32) (4 : Int32) (5 : Int32) cs [(own_en bf0 3), (own_en bf1 6), (own_en bf1 1), (own_en bf2 4), (.int 0), (.int 0), (.int 0), (.int 0), (.int 0), (.int 0), (.int 0), (.int 0)] [(own_en bf0 3), (own_en bf1 6), (own_en bf1 1), (own_en bf2 4), (own_en bf3 7), (.int 0), (.int 0), (.int 0), (.int 0), (.int 0), (.int 0), (.int 0)] 4 _ (by decide) (by decide) f23 z1 FV21 FC21 FN21 A21 z6 ne6 (by decide) (Nat.le_of_ble_eq_true rfl) (Nat.le_of_ble_eq_true rfl) (by decide) rfl (S_a.ext (o_kext k22)) (AL.ext (o_kext k22)) (S_c.ext (o_kext k22)) hcs p e s m below meth c T21 H21 ?_
  intro T25 h25 H25 K25 FV25 FC25 FN25 A25
  have k26 := k22.trans K25 (allS (Or.inr y1) (allS (Or.inr y6) all0))
  have f27 := f23.keep K25
  have f28 := f24.keep K25
  refine rmC l Z a0 hw a1 b1 b6 al _ h25 n0 bf3 (7 : Int32) (2 : Int32) (3 : Int32) (7 : Int32) (5 : Int32) (6 : Int32) cs [(own_en bf0 3), (own_en bf1 6), (own_en bf1 1), (own_en bf2 4), (own_en bf3 7), (.int 0), (.int 0), (.int 0), (.int 0), (.int 0), (.int 0), (.int 0)] [(own_en bf0 3), (own_en bf1 6), (own_en bf1 1), (own_en bf2 4), (own_en bf3 7), (own_en bf3 2), (.int 0), (.int 0), (.int 0), (.int 0), (.int 0), (.int 0)] 5 _ (by decide) (by decide) f27 z1 FV25 FC25 FN25 A25 z6 ne6 (by decide) (Nat.le_of_ble_eq_true rfl) (Nat.le_of_ble_eq_true rfl) (by decide) rfl (S_a.ext (o_kext k26)) (AL.ext (o_kext k26)) (S_c.ext (o_kext k26)) hcs p e s m below meth c T25 H25 ?_
  intro T29 h29 H29 K29 FV29 FC29 FN29 A29
  have k30 := k26.trans K29 (allS (Or.inr y1) (allS (Or.inr y6) all0))
  have f31 := f27.keep K29
  have f32 := f28.keep K29
  refine rmE l Z a0 hw a1 b1 _ h29 n0 bf3 (2 : Int32) (3 : Int32) (4 : Int32) (7 : Int32) _ (by decide) (by decide) p e s m below meth c T29 H29 ?_
  obtain ⟨bf4, e_bf4⟩ : ∃ z : Int32, z = own_bf bf3 x4 := ⟨_, rfl⟩
  refine rmB l Z a0 hw a1 b1 _ h29 n0 _ 4 bf3 bf4 (2 : Int32) (10 : Int32) (4 : Int32) (7 : Int32) x4 _ (AV1.ext (o_kext k30)) (by decide) (by decide) rfl e_bf4.symm (by decide) (Or.inr ⟨_, rfl⟩) p e s m below meth c T29 H29 ?_
  refine rmC l Z a0 hw a1 b1 b6 al _ h29 n0 bf4 (10 : Int32) (5 : Int32) (4 : Int32) (7 : Int32) (6 : Int32) (7 : Int32) cs [(own_en bf0 3), (own_en bf1 6), (own_en bf1 1), (own_en bf2 4), (own_en bf3 7), (own_en bf3 2), (.int 0), (.int 0), (.int 0), (.int 0), (.int 0), (.int 0)] [(own_en bf0 3), (own_en bf1 6), (own_en bf1 1), (own_en bf2 4), (own_en bf3 7), (own_en bf3 2), (own_en bf4 5), (.int 0), (.int 0), (.int 0), (.int 0), (.int 0)] 6 _ (by decide) (by decide) f31 z1 FV29 FC29 FN29 A29 z6 ne6 (by decide) (Nat.le_of_ble_eq_true rfl) (Nat.le_of_ble_eq_true rfl) (by decide) rfl (S_a.ext (o_kext k30)) (AL.ext (o_kext k30)) (S_c.ext (o_kext k30)) hcs p e s m below meth c T29 H29 ?_
  intro T33 h33 H33 K33 FV33 FC33 FN33 A33
  have k34 := k30.trans K33 (allS (Or.inr y1) (allS (Or.inr y6) all0))
  have f35 := f31.keep K33
  have f36 := f32.keep K33
  refine rmC l Z a0 hw a1 b1 b6 al _ h33 n0 bf4 (5 : Int32) (0 : Int32) (4 : Int32) (7 : Int32) (7 : Int32) (8 : Int32) cs [(own_en bf0 3), (own_en bf1 6), (own_en bf1 1), (own_en bf2 4), (own_en bf3 7), (own_en bf3 2), (own_en bf4 5), (.int 0), (.int 0), (.int 0), (.int 0), (.int 0)] [(own_en bf0 3), (own_en bf1 6), (own_en bf1 1), (own_en bf2 4), (own_en bf3 7), (own_en bf3 2), (own_en bf4 5), (own_en bf4 0), (.int 0), (.int 0), (.int 0), (.int 0)] 7 _ (by decide) (by decide) f35 z1 FV33 FC33 FN33 A33 z6 ne6 (by decide) (Nat.le_of_ble_eq_true rfl) (Nat.le_of_ble_eq_true rfl) (by decide) rfl (S_a.ext (o_kext k34)) (AL.ext (o_kext k34)) (S_c.ext (o_kext k34)) hcs p e s m below meth c T33 H33 ?_
  intro T37 h37 H37 K37 FV37 FC37 FN37 A37
  have k38 := k34.trans K37 (allS (Or.inr y1) (allS (Or.inr y6) all0))
  have f39 := f35.keep K37
  have f40 := f36.keep K37
  refine rmE l Z a0 hw a1 b1 _ h37 n0 bf4 (0 : Int32) (4 : Int32) (5 : Int32) (7 : Int32) _ (by decide) (by decide) p e s m below meth c T37 H37 ?_
  obtain ⟨bf5, e_bf5⟩ : ∃ z : Int32, z = own_bf bf4 x5 := ⟨_, rfl⟩
  refine rmB l Z a0 hw a1 b1 _ h37 n0 _ 5 bf4 bf5 (0 : Int32) (8 : Int32) (5 : Int32) (7 : Int32) x5 _ (AV1.ext (o_kext k38)) (by decide) (by decide) rfl e_bf5.symm (by decide) (Or.inr ⟨_, rfl⟩) p e s m below meth c T37 H37 ?_
  refine rmC l Z a0 hw a1 b1 b6 al _ h37 n0 bf5 (8 : Int32) (3 : Int32) (5 : Int32) (7 : Int32) (8 : Int32) (9 : Int32) cs [(own_en bf0 3), (own_en bf1 6), (own_en bf1 1), (own_en bf2 4), (own_en bf3 7), (own_en bf3 2), (own_en bf4 5), (own_en bf4 0), (.int 0), (.int 0), (.int 0), (.int 0)] [(own_en bf0 3), (own_en bf1 6), (own_en bf1 1), (own_en bf2 4), (own_en bf3 7), (own_en bf3 2), (own_en bf4 5), (own_en bf4 0), (own_en bf5 3), (.int 0), (.int 0), (.int 0)] 8 _ (by decide) (by decide) f39 z1 FV37 FC37 FN37 A37 z6 ne6 (by decide) (Nat.le_of_ble_eq_true rfl) (Nat.le_of_ble_eq_true rfl) (by decide) rfl (S_a.ext (o_kext k38)) (AL.ext (o_kext k38)) (S_c.ext (o_kext k38)) hcs p e s m below meth c T37 H37 ?_
  intro T41 h41 H41 K41 FV41 FC41 FN41 A41
  have k42 := k38.trans K41 (allS (Or.inr y1) (allS (Or.inr y6) all0))
  have f43 := f39.keep K41
  have f44 := f40.keep K41
  refine rmE l Z a0 hw a1 b1 _ h41 n0 bf5 (3 : Int32) (5 : Int32) (6 : Int32) (7 : Int32) _ (by decide) (by decide) p e s m below meth c T41 H41 ?_
  obtain ⟨bf6, e_bf6⟩ : ∃ z : Int32, z = own_bf bf5 x6 := ⟨_, rfl⟩
  refine rmB l Z a0 hw a1 b1 _ h41 n0 _ 6 bf5 bf6 (3 : Int32) (11 : Int32) (6 : Int32) (7 : Int32) x6 _ (AV1.ext (o_kext k42)) (by decide) (by decide) rfl e_bf6.symm (by decide) (Or.inr ⟨_, rfl⟩) p e s m below meth c T41 H41 ?_
  refine rmC l Z a0 hw a1 b1 b6 al _ h41 n0 bf6 (11 : Int32) (6 : Int32) (6 : Int32) (7 : Int32) (9 : Int32) (10 : Int32) cs [(own_en bf0 3), (own_en bf1 6), (own_en bf1 1), (own_en bf2 4), (own_en bf3 7), (own_en bf3 2), (own_en bf4 5), (own_en bf4 0), (own_en bf5 3), (.int 0), (.int 0), (.int 0)] [(own_en bf0 3), (own_en bf1 6), (own_en bf1 1), (own_en bf2 4), (own_en bf3 7), (own_en bf3 2), (own_en bf4 5), (own_en bf4 0), (own_en bf5 3), (own_en bf6 6), (.int 0), (.int 0)] 9 _ (by decide) (by decide) f43 z1 FV41 FC41 FN41 A41 z6 ne6 (by decide) (Nat.le_of_ble_eq_true rfl) (Nat.le_of_ble_eq_true rfl) (by decide) rfl (S_a.ext (o_kext k42)) (AL.ext (o_kext k42)) (S_c.ext (o_kext k42)) hcs p e s m below meth c T41 H41 ?_
  intro T45 h45 H45 K45 FV45 FC45 FN45 A45
  have k46 := k42.trans K45 (allS (Or.inr y1) (allS (Or.inr y6) all0))
  have f47 := f43.keep K45
  have f48 := f44.keep K45
  refine rmC l Z a0 hw a1 b1 b6 al _ h45 n0 bf6 (6 : Int32) (1 : Int32) (6 : Int32) (7 : Int32) (10 : Int32) (11 : Int32) cs [(own_en bf0 3), (own_en bf1 6), (own_en bf1 1), (own_en bf2 4), (own_en bf3 7), (own_en bf3 2), (own_en bf4 5), (own_en bf4 0), (own_en bf5 3), (own_en bf6 6), (.int 0), (.int 0)] [(own_en bf0 3), (own_en bf1 6), (own_en bf1 1), (own_en bf2 4), (own_en bf3 7), (own_en bf3 2), (own_en bf4 5), (own_en bf4 0), (own_en bf5 3), (own_en bf6 6), (own_en bf6 1), (.int 0)] 10 _ (by decide) (by decide) f47 z1 FV45 FC45 FN45 A45 z6 ne6 (by decide) (Nat.le_of_ble_eq_true rfl) (Nat.le_of_ble_eq_true rfl) (by decide) rfl (S_a.ext (o_kext k46)) (AL.ext (o_kext k46)) (S_c.ext (o_kext k46)) hcs p e s m below meth c T45 H45 ?_
  intro T49 h49 H49 K49 FV49 FC49 FN49 A49
  have k50 := k46.trans K49 (allS (Or.inr y1) (allS (Or.inr y6) all0))
  have f51 := f47.keep K49
  have f52 := f48.keep K49
  refine rmE l Z a0 hw a1 b1 _ h49 n0 bf6 (1 : Int32) (6 : Int32) (7 : Int32) (7 : Int32) _ (by decide) (by decide) p e s m below meth c T49 H49 ?_
  refine o_iload H49 rfl d1_32 rfl ?_
  refine o_iload H49 rfl d1_34 rfl ?_
  refine o_icmp_t H49 d1_36 (by decide) (pt := 93) (by decide) (by decide) ?_
  refine o_iloadN H49 rfl d1_93 rfl ?_
  refine o_if_f H49 d1_94 (by decide) rfl ?_
  refine o_aloadN H49 rfl rfl d1_97 rfl ?_
  refine o_getS H49 (host := "") (Or.inl (w115 hw)) (S_a.ext (o_kext k50)) d1_98 rfl ?_
  intro T53 H54
  refine o_iloadN H54 rfl d1_101 rfl ?_
  refine o_iconst H54 (5 : Int32) rfl d1_102 rfl ?_
  refine o_iloadN H54 rfl d1_103 rfl ?_
  refine o_isub H54 d1_104 rfl ?_
  refine o_fold (4 : Int32) (by decide) ?_
  refine o_ishl H54 d1_105 rfl ?_
  refine o_bipush H54 (31 : Int32) rfl d1_106 rfl ?_
  refine o_iand H54 d1_108 rfl ?_
  refine o_caload H54 ((((bf6 <<< ((4 : Int32) &&& 31)) &&& (31 : Int32))).toInt.toNat) (.int (own_al ((bf6 <<< ((4 : Int32) &&& 31)) &&& (31 : Int32)))) (AL.ext (o_kext k50)) (own_ix1 (bf6 <<< ((4 : Int32) &&& 31))) (own_ix2 (bf6 <<< ((4 : Int32) &&& 31))) d1_109 rfl ?_
  obtain ⟨ch11, e_ch11⟩ : ∃ z : Int32, z = (own_al ((bf6 <<< ((4 : Int32) &&& 31)) &&& (31 : Int32))) := ⟨_, rfl⟩
  rw [← e_ch11]
  have hc_ch11 : ¬ 255 < ch11 := by rw [e_ch11]; exact own_al255 _
  refine o_virtual H54 [(.int ch11)] [] (rm21 l Z a0 hw b1 ch11 b6 [(own_en bf0 3), (own_en bf1 6), (own_en bf1 1), (own_en bf2 4), (own_en bf3 7), (own_en bf3 2), (own_en bf4 5), (own_en bf4 0), (own_en bf5 3), (own_en bf6 6), (own_en bf6 1), (.int 0)] (11 : Int32) 11 cs h49 n0 H54.le f51 z1 FV49 FC49 FN49 A49 z6 ne6 (by decide) (Nat.le_of_ble_eq_true rfl) (Nat.le_of_ble_eq_true rfl) hc_ch11 (S_c.ext (o_kext k50)) hcs) f51 (w117 hw) (w118 hw) (o_nf (w120 hw)) (w120 hw) (w119 hw) (w8 hw) (w121 hw) (by decide) (lenOf pd21 rfl) rfl rfl (by decide) (Nat.le_of_ble_eq_true rfl) (by decide) (by decide) d1_110 rfl ?_
  intro T55 v55 h55 H55 q55
  obtain ⟨rfl, K55, FV55, FC55, FN55, A55⟩ := q55
  have k56 := k50.trans K55 (allS (Or.inr y1) (allS (Or.inr y6) all0))
  have f57 := f51.keep K55
  have f58 := f52.keep K55
  have FO55 : Fld Z h55 b1 "java/lang/AbstractStringBuilder" "count" "I" (.int (12 : Int32)) := FN55
  have AO55 : oA .byte Z h55 b6 [(own_en bf0 3), (own_en bf1 6), (own_en bf1 1), (own_en bf2 4), (own_en bf3 7), (own_en bf3 2), (own_en bf4 5), (own_en bf4 0), (own_en bf5 3), (own_en bf6 6), (own_en bf6 1), (.int (nar .byte ch11.toInt8.toInt32))] := A55
  show oG p e below s n0 _ _ _ (T55.setTop (mkF m 113 #[.val (.ref a1), .val (.ref b1), .val (.int bf6), .val (.int (1 : Int32)), .val (.ref a1), .val (.int (7 : Int32)), .val (.int (7 : Int32)), .val (.int x6)] [(.ref b1)]))
  refine o_pop H55 rfl d1_113 rfl ?_
  have OF : oFit .byte [(own_en bf0 3), (own_en bf1 6), (own_en bf1 1), (own_en bf2 4), (own_en bf3 7), (own_en bf3 2), (own_en bf4 5), (own_en bf4 0), (own_en bf5 3), (own_en bf6 6), (own_en bf6 1), (.int (nar .byte ch11.toInt8.toInt32))] := by
    intro v hv
    simp only [List.mem_cons, List.not_mem_nil, or_false] at hv
    rcases hv with rfl | rfl | rfl | rfl | rfl | rfl | rfl | rfl | rfl | rfl | rfl | rfl <;> exact fits_nar_byte _
  refine o_aloadN H55 rfl rfl d1_114 rfl ?_
  refine o_virtual H55 [] [] (rm5 l Z a0 hw b1 b6 [(own_en bf0 3), (own_en bf1 6), (own_en bf1 1), (own_en bf2 4), (own_en bf3 7), (own_en bf3 2), (own_en bf4 5), (own_en bf4 0), (own_en bf5 3), (own_en bf6 6), (own_en bf6 1), (.int (nar .byte ch11.toInt8.toInt32))] (12 : Int32) cs h55 n0 H55.le f57 FV55 FC55 FO55 AO55 f58 OF rfl (Nat.le_of_ble_eq_true rfl) (S_c.ext (o_kext k56)) hcs) f57 (w27 hw) (w28 hw) (o_nf (w30 hw)) (w30 hw) (w29 hw) (w8 hw) (w31 hw) (by decide) (lenOf pd5 rfl) rfl rfl (by decide) (Nat.le_of_ble_eq_true rfl) (by decide) (by decide) d1_115 rfl ?_
  intro T59 v59 h59 H59 q59
  obtain ⟨r59, b59, rfl, K59, X59, FC59, FV59, A59⟩ := q59
  have k60 := k56.trans K59 all0
  show oG p e below s n0 _ _ _ (T59.setTop (mkF m 118 #[.val (.ref a1), .val (.ref b1), .val (.int bf6), .val (.int (1 : Int32)), .val (.ref a1), .val (.int (7 : Int32)), .val (.int (7 : Int32)), .val (.int x6)] [(.ref r59)]))
  have fin : oA .byte Z h59 b59 (own_enc_7 x0 x1 x2 x3 x4 x5 x6) := by
    have q := A59
    subst e_ch11
    subst e_bf6
    subst e_bf5
    subst e_bf4
    subst e_bf3
    subst e_bf2
    subst e_bf1
    subst e_bf0
    exact q
  exact o_areturn H59 rfl rfl rfl rfl d1_118 (by decide) (by decide) ⟨_, _, rfl, k60, X59, FC59, FV59, fin⟩
set_option maxRecDepth 65536 in
set_option maxHeartbeats 40000000 in
theorem rm1_8 (l : Launch) (Z : State) (a0 : Array Value) (hw : ∀ d ∈ tables_1, d.before a0 Z = true) (a1 : Addr) (al : Addr) (cs : Int32) (x0 x1 x2 x3 x4 x5 x6 x7 : Int32) (h0 : Heap) (n0 : Nat) (Z0 : n0 ≤ h0.size) (AV1 : oA .byte Z h0 a1 [(.int x0), (.int x1), (.int x2), (.int x3), (.int x4), (.int x5), (.int x6), (.int x7)]) (S_a : Sta Z h0 "com/example/encase/encase/codec/Base32" "ALPHABET" "[C" (.ref al)) (AL : oA .char Z h0 al own_alist) (S_c : Sta Z h0 "java/lang/String" "COMPACT_STRINGS" "Z" (.int cs)) (hcs : ¬ cs = 0) :
    oC l Z n0 (⟨"com/example/encase/encase/codec/Base32", "encode", "([B)Ljava/lang/String;"⟩ : MethodName) prog_16_method_2_code 8 (some (.object "java/lang/String")) ({ frames := 5, cells := 6, slots := 60, locals := 90 } : Room) 6 60 #[(.ref a1)] h0 (fun v h => ∃ r b, v = some (.ref r) ∧ Keep h0 h [] ∧ Exa Z h r "java/lang/String" ∧ Fld Z h r "java/lang/String" "coder" "B" (.int 0) ∧ Fld Z h r "java/lang/String" "value" "[B" (.ref b) ∧ oA .byte Z h b (own_enc_8 x0 x1 x2 x3 x4 x5 x6 x7)) := by
  refine oC.of (L := #[.val (.ref a1), .unset, .unset, .unset, .unset, .unset, .unset, .unset]) pn1 Z0 (fun m => by first | (simp [entryFrame, mkF, argsToLocals, Value.category]; done) | rfl) ?_
  intro p e s m below meth c T H
  refine o_new H (w6 hw) (w7 hw) (w8 hw) d1_0 rfl (by decide) (by decide) ?_
  intro T1 h1 b1 g1 H1 E1 A1 D1
  have ne1_al : al ≠ b1 := by rw [g1]; exact Nat.ne_of_lt ((AL.ext (o_kext (Keep.refl h0 [])))).lt
  have ne1_a1 : a1 ≠ b1 := by rw [g1]; exact Nat.ne_of_lt ((AV1.ext (o_kext (Keep.refl h0 [])))).lt
  have z1 : n0 ≤ b1 := by rw [g1]; exact H.le
  have y1 : h0.size ≤ b1 := by rw [g1]; exact (Keep.refl h0 []).1
  have k2 := (Keep.refl h0 []).ext E1
  have f3 : Fld Z h1 b1 "java/lang/AbstractStringBuilder" "value" "[B" .null := D1 (Or.inl (w24 hw)) (ty := (.array .byte)) (by decide)
  have f4 : Fld Z h1 b1 "java/lang/AbstractStringBuilder" "coder" "B" (.int (0 : Int32)) := D1 (Or.inl (w26 hw)) (ty := .byte) (by decide)
  have f5 : Fld Z h1 b1 "java/lang/AbstractStringBuilder" "count" "I" (.int (0 : Int32)) := D1 (Or.inl (w57 hw)) (ty := .int) (by decide)
  refine o_dup H1 rfl d1_3 rfl ?_
  refine o_aloadN H1 rfl rfl d1_4 rfl ?_
  refine o_arraylength H1 (8 : Int32) (AV1.ext (o_kext k2)) rfl d1_5 rfl ?_
  refine o_bipush H1 (8 : Int32) rfl d1_6 rfl ?_
  refine o_imul H1 d1_8 rfl ?_
  refine o_fold (64 : Int32) (by decide) ?_
  refine o_iconst H1 (4 : Int32) rfl d1_9 rfl ?_
  refine o_iadd H1 d1_10 rfl ?_
  refine o_fold (68 : Int32) (by decide) ?_
  refine o_iconst H1 (5 : Int32) rfl d1_11 rfl ?_
  refine o_idiv H1 (by decide) d1_12 rfl ?_
  refine o_fold (13 : Int32) (by decide) ?_
  refine o_special H1 [(.int (13 : Int32))] [(.ref b1)] (rm2 l Z a0 hw b1 (13 : Int32) 13 cs h1 n0 H1.le A1 z1 f3 f4 f5 (by decide) (by decide) (S_c.ext (o_kext k2)) hcs) rfl (w9 hw) (w10 hw) (w8 hw) (w11 hw) (by decide) (lenOf pd2 rfl) rfl rfl (by decide) (Nat.le_of_ble_eq_true rfl) (by decide) (by decide) d1_13 rfl ?_
  intro T6 v6 h6 H6 q6
  obtain ⟨rfl, b6, K6, FV6, FC6, FN6, A6, X6, z6, y06, ne6⟩ := q6
  have k7 := k2.trans K6 (allS (Or.inr y1) all0)
  have f8 := A1.keep K6
  have y6 : h0.size ≤ b6 := Nat.le_trans (k2).1 y06
  have AA6 : oA .byte Z h6 b6 [(.int 0), (.int 0), (.int 0), (.int 0), (.int 0), (.int 0), (.int 0), (.int 0), (.int 0), (.int 0), (.int 0), (.int 0), (.int 0)] := A6
  show oG p e below s n0 _ _ _ (T6.setTop (mkF m 16 #[.val (.ref a1), .unset, .unset, .unset, .unset, .unset, .unset, .unset] [(.ref b1)]))
  refine o_astoreN H6 (L' := #[.val (.ref a1), .val (.ref b1), .unset, .unset, .unset, .unset, .unset, .unset]) rfl rfl d1_16 rfl ?_
  refine o_iconst H6 (0 : Int32) rfl d1_17 rfl ?_
  refine o_istoreN H6 (L' := #[.val (.ref a1), .val (.ref b1), .val (.int (0 : Int32)), .unset, .unset, .unset, .unset, .unset]) rfl d1_18 rfl ?_
  refine o_iconst H6 (0 : Int32) rfl d1_19 rfl ?_
  refine o_istoreN H6 (L' := #[.val (.ref a1), .val (.ref b1), .val (.int (0 : Int32)), .val (.int (0 : Int32)), .unset, .unset, .unset, .unset]) rfl d1_20 rfl ?_
  refine o_aloadN H6 rfl rfl d1_21 rfl ?_
  refine o_astore H6 (L' := #[.val (.ref a1), .val (.ref b1), .val (.int (0 : Int32)), .val (.int (0 : Int32)), .val (.ref a1), .unset, .unset, .unset]) rfl rfl d1_22 rfl ?_
  refine o_aload H6 rfl rfl d1_24 rfl ?_
  refine o_arraylength H6 (8 : Int32) (AV1.ext (o_kext k7)) rfl d1_26 rfl ?_
  refine o_istore H6 (L' := #[.val (.ref a1), .val (.ref b1), .val (.int (0 : Int32)), .val (.int (0 : Int32)), .val (.ref a1), .val (.int (8 : Int32)), .unset, .unset]) rfl d1_27 rfl ?_
  refine o_iconst H6 (0 : Int32) rfl d1_29 rfl ?_
  refine o_istore H6 (L' := #[.val (.ref a1), .val (.ref b1), .val (.int (0 : Int32)), .val (.int (0 : Int32)), .val (.ref a1), .val (.int (8 : Int32)), .val (.int (0 : Int32)), .unset]) rfl d1_30 rfl ?_
  obtain ⟨bf0, e_bf0⟩ : ∃ z : Int32, z = own_bf (0 : Int32) x0 := ⟨_, rfl⟩
  refine rmB l Z a0 hw a1 b1 _ h6 n0 _ 0 (0 : Int32) bf0 (0 : Int32) (8 : Int32) (0 : Int32) (8 : Int32) x0 _ (AV1.ext (o_kext k7)) (by decide) (by decide) rfl e_bf0.symm (by decide) (Or.inl rfl) p e s m below meth c T6 H6 ?_
  refine rmC l Z a0 hw a1 b1 b6 al _ h6 n0 bf0 (8 : Int32) (3 : Int32) (0 : Int32) (8 : Int32) (0 : Int32) (1 : Int32) cs [(.int 0), (.int 0), (.int 0), (.int 0), (.int 0), (.int 0), (.int 0), (.int 0), (.int 0), (.int 0), (.int 0), (.int 0), (.int 0)] [(own_en bf0 3), (.int 0), (.int 0), (.int 0), (.int 0), (.int 0), (.int 0), (.int 0), (.int 0), (.int 0), (.int 0), (.int 0), (.int 0)] 0 _ (by decide) (by decide) f8 z1 FV6 FC6 FN6 AA6 z6 ne6 (by decide) (Nat.le_of_ble_eq_true rfl) (Nat.le_of_ble_eq_true rfl) (by decide) rfl (S_a.ext (o_kext k7)) (AL.ext (o_kext k7)) (S_c.ext (o_kext k7)) hcs p e s m below meth c T6 H6 ?_
  intro T9 h9 H9 K9 FV9 FC9 FN9 A9
  have k10 := k7.trans K9 (allS (Or.inr y1) (allS (Or.inr y6) all0))
  have f11 := f8.keep K9
  have f12 := X6.keep K9
  refine rmE l Z a0 hw a1 b1 _ h9 n0 bf0 (3 : Int32) (0 : Int32) (1 : Int32) (8 : Int32) _ (by decide) (by decide) p e s m below meth c T9 H9 ?_
  obtain ⟨bf1, e_bf1⟩ : ∃ z : Int32, z = own_bf bf0 x1 := ⟨_, rfl⟩
  refine rmB l Z a0 hw a1 b1 _ h9 n0 _ 1 bf0 bf1 (3 : Int32) (11 : Int32) (1 : Int32) (8 : Int32) x1 _ (AV1.ext (o_kext k10)) (by decide) (by decide) rfl e_bf1.symm (by decide) (Or.inr ⟨_, rfl⟩) p e s m below meth c T9 H9 ?_
  refine rmC l Z a0 hw a1 b1 b6 al _ h9 n0 bf1 (11 : Int32) (6 : Int32) (1 : Int32) (8 : Int32) (1 : Int32) (2 : Int32) cs [(own_en bf0 3), (.int 0), (.int 0), (.int 0), (.int 0), (.int 0), (.int 0), (.int 0), (.int 0), (.int 0), (.int 0), (.int 0), (.int 0)] [(own_en bf0 3), (own_en bf1 6), (.int 0), (.int 0), (.int 0), (.int 0), (.int 0), (.int 0), (.int 0), (.int 0), (.int 0), (.int 0), (.int 0)] 1 _ (by decide) (by decide) f11 z1 FV9 FC9 FN9 A9 z6 ne6 (by decide) (Nat.le_of_ble_eq_true rfl) (Nat.le_of_ble_eq_true rfl) (by decide) rfl (S_a.ext (o_kext k10)) (AL.ext (o_kext k10)) (S_c.ext (o_kext k10)) hcs p e s m below meth c T9 H9 ?_
  intro T13 h13 H13 K13 FV13 FC13 FN13 A13
  have k14 := k10.trans K13 (allS (Or.inr y1) (allS (Or.inr y6) all0))
  have f15 := f11.keep K13
  have f16 := f12.keep K13
  refine rmC l Z a0 hw a1 b1 b6 al _ h13 n0 bf1 (6 : Int32) (1 : Int32) (1 : Int32) (8 : Int32) (2 : Int32) (3 : Int32) cs [(own_en bf0 3), (own_en bf1 6), (.int 0), (.int 0), (.int 0), (.int 0), (.int 0), (.int 0), (.int 0), (.int 0), (.int 0), (.int 0), (.int 0)] [(own_en bf0 3), (own_en bf1 6), (own_en bf1 1), (.int 0), (.int 0), (.int 0), (.int 0), (.int 0), (.int 0), (.int 0), (.int 0), (.int 0), (.int 0)] 2 _ (by decide) (by decide) f15 z1 FV13 FC13 FN13 A13 z6 ne6 (by decide) (Nat.le_of_ble_eq_true rfl) (Nat.le_of_ble_eq_true rfl) (by decide) rfl (S_a.ext (o_kext k14)) (AL.ext (o_kext k14)) (S_c.ext (o_kext k14)) hcs p e s m below meth c T13 H13 ?_
  intro T17 h17 H17 K17 FV17 FC17 FN17 A17
  have k18 := k14.trans K17 (allS (Or.inr y1) (allS (Or.inr y6) all0))
  have f19 := f15.keep K17
  have f20 := f16.keep K17
  refine rmE l Z a0 hw a1 b1 _ h17 n0 bf1 (1 : Int32) (1 : Int32) (2 : Int32) (8 : Int32) _ (by decide) (by decide) p e s m below meth c T17 H17 ?_
  obtain ⟨bf2, e_bf2⟩ : ∃ z : Int32, z = own_bf bf1 x2 := ⟨_, rfl⟩
  refine rmB l Z a0 hw a1 b1 _ h17 n0 _ 2 bf1 bf2 (1 : Int32) (9 : Int32) (2 : Int32) (8 : Int32) x2 _ (AV1.ext (o_kext k18)) (by decide) (by decide) rfl e_bf2.symm (by decide) (Or.inr ⟨_, rfl⟩) p e s m below meth c T17 H17 ?_
  refine rmC l Z a0 hw a1 b1 b6 al _ h17 n0 bf2 (9 : Int32) (4 : Int32) (2 : Int32) (8 : Int32) (3 : Int32) (4 : Int32) cs [(own_en bf0 3), (own_en bf1 6), (own_en bf1 1), (.int 0), (.int 0), (.int 0), (.int 0), (.int 0), (.int 0), (.int 0), (.int 0), (.int 0), (.int 0)] [(own_en bf0 3), (own_en bf1 6), (own_en bf1 1), (own_en bf2 4), (.int 0), (.int 0), (.int 0), (.int 0), (.int 0), (.int 0), (.int 0), (.int 0), (.int 0)] 3 _ (by decide) (by decide) f19 z1 FV17 FC17 FN17 A17 z6 ne6 (by decide) (Nat.le_of_ble_eq_true rfl) (Nat.le_of_ble_eq_true rfl) (by decide) rfl (S_a.ext (o_kext k18)) (AL.ext (o_kext k18)) (S_c.ext (o_kext k18)) hcs p e s m below meth c T17 H17 ?_
  intro T21 h21 H21 K21 FV21 FC21 FN21 A21
  have k22 := k18.trans K21 (allS (Or.inr y1) (allS (Or.inr y6) all0))
  have f23 := f19.keep K21
  have f24 := f20.keep K21
  refine rmE l Z a0 hw a1 b1 _ h21 n0 bf2 (4 : Int32) (2 : Int32) (3 : Int32) (8 : Int32) _ (by decide) (by decide) p e s m below meth c T21 H21 ?_
  obtain ⟨bf3, e_bf3⟩ : ∃ z : Int32, z = own_bf bf2 x3 := ⟨_, rfl⟩
  refine rmB l Z a0 hw a1 b1 _ h21 n0 _ 3 bf2 bf3 (4 : Int32) (12 : Int32) (3 : Int32) (8 : Int32) x3 _ (AV1.ext (o_kext k22)) (by decide) (by decide) rfl e_bf3.symm (by decide) (Or.inr ⟨_, rfl⟩) p e s m below meth c T21 H21 ?_
  refine rmC l Z a0 hw a1 b1 b6 al _ h21 n0 bf3 (12 : Int32) (7 : Int32) (3 : Int32) (8 : Int32) (4 : Int32) (5 : Int32) cs [(own_en bf0 3), (own_en bf1 6), (own_en bf1 1), (own_en bf2 4), (.int 0), (.int 0), (.int 0), (.int 0), (.int 0), (.int 0), (.int 0), (.int 0), (.int 0)] [(own_en bf0 3), (own_en bf1 6), (own_en bf1 1), (own_en bf2 4), (own_en bf3 7), (.int 0), (.int 0), (.int 0), (.int 0), (.int 0), (.int 0), (.int 0), (.int 0)] 4 _ (by decide) (by decide) f23 z1 FV21 FC21 FN21 A21 z6 ne6 (by decide) (Nat.le_of_ble_eq_true rfl) (Nat.le_of_ble_eq_true rfl) (by decide) rfl (S_a.ext (o_kext k22)) (AL.ext (o_kext k22)) (S_c.ext (o_kext k22)) hcs p e s m below meth c T21 H21 ?_
  intro T25 h25 H25 K25 FV25 FC25 FN25 A25
  have k26 := k22.trans K25 (allS (Or.inr y1) (allS (Or.inr y6) all0))
  have f27 := f23.keep K25
  have f28 := f24.keep K25
  refine rmC l Z a0 hw a1 b1 b6 al _ h25 n0 bf3 (7 : Int32) (2 : Int32) (3 : Int32) (8 : Int32) (5 : Int32) (6 : Int32) cs [(own_en bf0 3), (own_en bf1 6), (own_en bf1 1), (own_en bf2 4), (own_en bf3 7), (.int 0), (.int 0), (.int 0), (.int 0), (.int 0), (.int 0), (.int 0), (.int 0)] [(own_en bf0 3), (own_en bf1 6), (own_en bf1 1), (own_en bf2 4), (own_en bf3 7), (own_en bf3 2), (.int 0), (.int 0), (.int 0), (.int 0), (.int 0), (.int 0), (.int 0)] 5 _ (by decide) (by decide) f27 z1 FV25 FC25 FN25 A25 z6 ne6 (by decide) (Nat.le_of_ble_eq_true rfl) (Nat.le_of_ble_eq_true rfl) (by decide) rfl (S_a.ext (o_kext k26)) (AL.ext (o_kext k26)) (S_c.ext (o_kext k26)) hcs p e s m below meth c T25 H25 ?_
  intro T29 h29 H29 K29 FV29 FC29 FN29 A29
  have k30 := k26.trans K29 (allS (Or.inr y1) (allS (Or.inr y6) all0))
  have f31 := f27.keep K29
  have f32 := f28.keep K29
  refine rmE l Z a0 hw a1 b1 _ h29 n0 bf3 (2 : Int32) (3 : Int32) (4 : Int32) (8 : Int32) _ (by decide) (by decide) p e s m below meth c T29 H29 ?_
  obtain ⟨bf4, e_bf4⟩ : ∃ z : Int32, z = own_bf bf3 x4 := ⟨_, rfl⟩
  refine rmB l Z a0 hw a1 b1 _ h29 n0 _ 4 bf3 bf4 (2 : Int32) (10 : Int32) (4 : Int32) (8 : Int32) x4 _ (AV1.ext (o_kext k30)) (by decide) (by decide) rfl e_bf4.symm (by decide) (Or.inr ⟨_, rfl⟩) p e s m below meth c T29 H29 ?_
  refine rmC l Z a0 hw a1 b1 b6 al _ h29 n0 bf4 (10 : Int32) (5 : Int32) (4 : Int32) (8 : Int32) (6 : Int32) (7 : Int32) cs [(own_en bf0 3), (own_en bf1 6), (own_en bf1 1), (own_en bf2 4), (own_en bf3 7), (own_en bf3 2), (.int 0), (.int 0), (.int 0), (.int 0), (.int 0), (.int 0), (.int 0)] [(own_en bf0 3), (own_en bf1 6), (own_en bf1 1), (own_en bf2 4), (own_en bf3 7), (own_en bf3 2), (own_en bf4 5), (.int 0), (.int 0), (.int 0), (.int 0), (.int 0), (.int 0)] 6 _ (by decide) (by decide) f31 z1 FV29 FC29 FN29 A29 z6 ne6 (by decide) (Nat.le_of_ble_eq_true rfl) (Nat.le_of_ble_eq_true rfl) (by decide) rfl (S_a.ext (o_kext k30)) (AL.ext (o_kext k30)) (S_c.ext (o_kext k30)) hcs p e s m below meth c T29 H29 ?_
  intro T33 h33 H33 K33 FV33 FC33 FN33 A33
  have k34 := k30.trans K33 (allS (Or.inr y1) (allS (Or.inr y6) all0))
  have f35 := f31.keep K33
  have f36 := f32.keep K33
  refine rmC l Z a0 hw a1 b1 b6 al _ h33 n0 bf4 (5 : Int32) (0 : Int32) (4 : Int32) (8 : Int32) (7 : Int32) (8 : Int32) cs [(own_en bf0 3), (own_en bf1 6), (own_en bf1 1), (own_en bf2 4), (own_en bf3 7), (own_en bf3 2), (own_en bf4 5), (.int 0), (.int 0), (.int 0), (.int 0), (.int 0), (.int 0)] [(own_en bf0 3), (own_en bf1 6), (own_en bf1 1), (own_en bf2 4), (own_en bf3 7), (own_en bf3 2), (own_en bf4 5), (own_en bf4 0), (.int 0), (.int 0), (.int 0), (.int 0), (.int 0)] 7 _ (by decide) (by decide) f35 z1 FV33 FC33 FN33 A33 z6 ne6 (by decide) (Nat.le_of_ble_eq_true rfl) (Nat.le_of_ble_eq_true rfl) (by decide) rfl (S_a.ext (o_kext k34)) (AL.ext (o_kext k34)) (S_c.ext (o_kext k34)) hcs p e s m below meth c T33 H33 ?_
  intro T37 h37 H37 K37 FV37 FC37 FN37 A37
  have k38 := k34.trans K37 (allS (Or.inr y1) (allS (Or.inr y6) all0))
  have f39 := f35.keep K37
  have f40 := f36.keep K37
  refine rmE l Z a0 hw a1 b1 _ h37 n0 bf4 (0 : Int32) (4 : Int32) (5 : Int32) (8 : Int32) _ (by decide) (by decide) p e s m below meth c T37 H37 ?_
  obtain ⟨bf5, e_bf5⟩ : ∃ z : Int32, z = own_bf bf4 x5 := ⟨_, rfl⟩
  refine rmB l Z a0 hw a1 b1 _ h37 n0 _ 5 bf4 bf5 (0 : Int32) (8 : Int32) (5 : Int32) (8 : Int32) x5 _ (AV1.ext (o_kext k38)) (by decide) (by decide) rfl e_bf5.symm (by decide) (Or.inr ⟨_, rfl⟩) p e s m below meth c T37 H37 ?_
  refine rmC l Z a0 hw a1 b1 b6 al _ h37 n0 bf5 (8 : Int32) (3 : Int32) (5 : Int32) (8 : Int32) (8 : Int32) (9 : Int32) cs [(own_en bf0 3), (own_en bf1 6), (own_en bf1 1), (own_en bf2 4), (own_en bf3 7), (own_en bf3 2), (own_en bf4 5), (own_en bf4 0), (.int 0), (.int 0), (.int 0), (.int 0), (.int 0)] [(own_en bf0 3), (own_en bf1 6), (own_en bf1 1), (own_en bf2 4), (own_en bf3 7), (own_en bf3 2), (own_en bf4 5), (own_en bf4 0), (own_en bf5 3), (.int 0), (.int 0), (.int 0), (.int 0)] 8 _ (by decide) (by decide) f39 z1 FV37 FC37 FN37 A37 z6 ne6 (by decide) (Nat.le_of_ble_eq_true rfl) (Nat.le_of_ble_eq_true rfl) (by decide) rfl (S_a.ext (o_kext k38)) (AL.ext (o_kext k38)) (S_c.ext (o_kext k38)) hcs p e s m below meth c T37 H37 ?_
  intro T41 h41 H41 K41 FV41 FC41 FN41 A41
  have k42 := k38.trans K41 (allS (Or.inr y1) (allS (Or.inr y6) all0))
  have f43 := f39.keep K41
  have f44 := f40.keep K41
  refine rmE l Z a0 hw a1 b1 _ h41 n0 bf5 (3 : Int32) (5 : Int32) (6 : Int32) (8 : Int32) _ (by decide) (by decide) p e s m below meth c T41 H41 ?_
  obtain ⟨bf6, e_bf6⟩ : ∃ z : Int32, z = own_bf bf5 x6 := ⟨_, rfl⟩
  refine rmB l Z a0 hw a1 b1 _ h41 n0 _ 6 bf5 bf6 (3 : Int32) (11 : Int32) (6 : Int32) (8 : Int32) x6 _ (AV1.ext (o_kext k42)) (by decide) (by decide) rfl e_bf6.symm (by decide) (Or.inr ⟨_, rfl⟩) p e s m below meth c T41 H41 ?_
  refine rmC l Z a0 hw a1 b1 b6 al _ h41 n0 bf6 (11 : Int32) (6 : Int32) (6 : Int32) (8 : Int32) (9 : Int32) (10 : Int32) cs [(own_en bf0 3), (own_en bf1 6), (own_en bf1 1), (own_en bf2 4), (own_en bf3 7), (own_en bf3 2), (own_en bf4 5), (own_en bf4 0), (own_en bf5 3), (.int 0), (.int 0), (.int 0), (.int 0)] [(own_en bf0 3), (own_en bf1 6), (own_en bf1 1), (own_en bf2 4), (own_en bf3 7), (own_en bf3 2), (own_en bf4 5), (own_en bf4 0), (own_en bf5 3), (own_en bf6 6), (.int 0), (.int 0), (.int 0)] 9 _ (by decide) (by decide) f43 z1 FV41 FC41 FN41 A41 z6 ne6 (by decide) (Nat.le_of_ble_eq_true rfl) (Nat.le_of_ble_eq_true rfl) (by decide) rfl (S_a.ext (o_kext k42)) (AL.ext (o_kext k42)) (S_c.ext (o_kext k42)) hcs p e s m below meth c T41 H41 ?_
  intro T45 h45 H45 K45 FV45 FC45 FN45 A45
  have k46 := k42.trans K45 (allS (Or.inr y1) (allS (Or.inr y6) all0))
  have f47 := f43.keep K45
  have f48 := f44.keep K45
  refine rmC l Z a0 hw a1 b1 b6 al _ h45 n0 bf6 (6 : Int32) (1 : Int32) (6 : Int32) (8 : Int32) (10 : Int32) (11 : Int32) cs [(own_en bf0 3), (own_en bf1 6), (own_en bf1 1), (own_en bf2 4), (own_en bf3 7), (own_en bf3 2), (own_en bf4 5), (own_en bf4 0), (own_en bf5 3), (own_en bf6 6), (.int 0), (.int 0), (.int 0)] [(own_en bf0 3), (own_en bf1 6), (own_en bf1 1), (own_en bf2 4), (own_en bf3 7), (own_en bf3 2), (own_en bf4 5), (own_en bf4 0), (own_en bf5 3), (own_en bf6 6), (own_en bf6 1), (.int 0), (.int 0)] 10 _ (by decide) (by decide) f47 z1 FV45 FC45 FN45 A45 z6 ne6 (by decide) (Nat.le_of_ble_eq_true rfl) (Nat.le_of_ble_eq_true rfl) (by decide) rfl (S_a.ext (o_kext k46)) (AL.ext (o_kext k46)) (S_c.ext (o_kext k46)) hcs p e s m below meth c T45 H45 ?_
  intro T49 h49 H49 K49 FV49 FC49 FN49 A49
  have k50 := k46.trans K49 (allS (Or.inr y1) (allS (Or.inr y6) all0))
  have f51 := f47.keep K49
  have f52 := f48.keep K49
  refine rmE l Z a0 hw a1 b1 _ h49 n0 bf6 (1 : Int32) (6 : Int32) (7 : Int32) (8 : Int32) _ (by decide) (by decide) p e s m below meth c T49 H49 ?_
  obtain ⟨bf7, e_bf7⟩ : ∃ z : Int32, z = own_bf bf6 x7 := ⟨_, rfl⟩
  refine rmB l Z a0 hw a1 b1 _ h49 n0 _ 7 bf6 bf7 (1 : Int32) (9 : Int32) (7 : Int32) (8 : Int32) x7 _ (AV1.ext (o_kext k50)) (by decide) (by decide) rfl e_bf7.symm (by decide) (Or.inr ⟨_, rfl⟩) p e s m below meth c T49 H49 ?_
  refine rmC l Z a0 hw a1 b1 b6 al _ h49 n0 bf7 (9 : Int32) (4 : Int32) (7 : Int32) (8 : Int32) (11 : Int32) (12 : Int32) cs [(own_en bf0 3), (own_en bf1 6), (own_en bf1 1), (own_en bf2 4), (own_en bf3 7), (own_en bf3 2), (own_en bf4 5), (own_en bf4 0), (own_en bf5 3), (own_en bf6 6), (own_en bf6 1), (.int 0), (.int 0)] [(own_en bf0 3), (own_en bf1 6), (own_en bf1 1), (own_en bf2 4), (own_en bf3 7), (own_en bf3 2), (own_en bf4 5), (own_en bf4 0), (own_en bf5 3), (own_en bf6 6), (own_en bf6 1), (own_en bf7 4), (.int 0)] 11 _ (by decide) (by decide) f51 z1 FV49 FC49 FN49 A49 z6 ne6 (by decide) (Nat.le_of_ble_eq_true rfl) (Nat.le_of_ble_eq_true rfl) (by decide) rfl (S_a.ext (o_kext k50)) (AL.ext (o_kext k50)) (S_c.ext (o_kext k50)) hcs p e s m below meth c T49 H49 ?_
  intro T53 h53 H53 K53 FV53 FC53 FN53 A53
  have k54 := k50.trans K53 (allS (Or.inr y1) (allS (Or.inr y6) all0))
  have f55 := f51.keep K53
  have f56 := f52.keep K53
  refine rmE l Z a0 hw a1 b1 _ h53 n0 bf7 (4 : Int32) (7 : Int32) (8 : Int32) (8 : Int32) _ (by decide) (by decide) p e s m below meth c T53 H53 ?_
  refine o_iload H53 rfl d1_32 rfl ?_
  refine o_iload H53 rfl d1_34 rfl ?_
  refine o_icmp_t H53 d1_36 (by decide) (pt := 93) (by decide) (by decide) ?_
  refine o_iloadN H53 rfl d1_93 rfl ?_
  refine o_if_f H53 d1_94 (by decide) rfl ?_
  refine o_aloadN H53 rfl rfl d1_97 rfl ?_
  refine o_getS H53 (host := "") (Or.inl (w115 hw)) (S_a.ext (o_kext k54)) d1_98 rfl ?_
  intro T57 H58
  refine o_iloadN H58 rfl d1_101 rfl ?_
  refine o_iconst H58 (5 : Int32) rfl d1_102 rfl ?_
  refine o_iloadN H58 rfl d1_103 rfl ?_
  refine o_isub H58 d1_104 rfl ?_
  refine o_fold (1 : Int32) (by decide) ?_
  refine o_ishl H58 d1_105 rfl ?_
  refine o_bipush H58 (31 : Int32) rfl d1_106 rfl ?_
  refine o_iand H58 d1_108 rfl ?_
  refine o_caload H58 ((((bf7 <<< ((1 : Int32) &&& 31)) &&& (31 : Int32))).toInt.toNat) (.int (own_al ((bf7 <<< ((1 : Int32) &&& 31)) &&& (31 : Int32)))) (AL.ext (o_kext k54)) (own_ix1 (bf7 <<< ((1 : Int32) &&& 31))) (own_ix2 (bf7 <<< ((1 : Int32) &&& 31))) d1_109 rfl ?_
  obtain ⟨ch12, e_ch12⟩ : ∃ z : Int32, z = (own_al ((bf7 <<< ((1 : Int32) &&& 31)) &&& (31 : Int32))) := ⟨_, rfl⟩
  rw [← e_ch12]
  have hc_ch12 : ¬ 255 < ch12 := by rw [e_ch12]; exact own_al255 _
  refine o_virtual H58 [(.int ch12)] [] (rm21 l Z a0 hw b1 ch12 b6 [(own_en bf0 3), (own_en bf1 6), (own_en bf1 1), (own_en bf2 4), (own_en bf3 7), (own_en bf3 2), (own_en bf4 5), (own_en bf4 0), (own_en bf5 3), (own_en bf6 6), (own_en bf6 1), (own_en bf7 4), (.int 0)] (12 : Int32) 12 cs h53 n0 H58.le f55 z1 FV53 FC53 FN53 A53 z6 ne6 (by decide) (Nat.le_of_ble_eq_true rfl) (Nat.le_of_ble_eq_true rfl) hc_ch12 (S_c.ext (o_kext k54)) hcs) f55 (w117 hw) (w118 hw) (o_nf (w120 hw)) (w120 hw) (w119 hw) (w8 hw) (w121 hw) (by decide) (lenOf pd21 rfl) rfl rfl (by decide) (Nat.le_of_ble_eq_true rfl) (by decide) (by decide) d1_110 rfl ?_
  intro T59 v59 h59 H59 q59
  obtain ⟨rfl, K59, FV59, FC59, FN59, A59⟩ := q59
  have k60 := k54.trans K59 (allS (Or.inr y1) (allS (Or.inr y6) all0))
  have f61 := f55.keep K59
  have f62 := f56.keep K59
  have FO59 : Fld Z h59 b1 "java/lang/AbstractStringBuilder" "count" "I" (.int (13 : Int32)) := FN59
  have AO59 : oA .byte Z h59 b6 [(own_en bf0 3), (own_en bf1 6), (own_en bf1 1), (own_en bf2 4), (own_en bf3 7), (own_en bf3 2), (own_en bf4 5), (own_en bf4 0), (own_en bf5 3), (own_en bf6 6), (own_en bf6 1), (own_en bf7 4), (.int (nar .byte ch12.toInt8.toInt32))] := A59
  show oG p e below s n0 _ _ _ (T59.setTop (mkF m 113 #[.val (.ref a1), .val (.ref b1), .val (.int bf7), .val (.int (4 : Int32)), .val (.ref a1), .val (.int (8 : Int32)), .val (.int (8 : Int32)), .val (.int x7)] [(.ref b1)]))
  refine o_pop H59 rfl d1_113 rfl ?_
  have OF : oFit .byte [(own_en bf0 3), (own_en bf1 6), (own_en bf1 1), (own_en bf2 4), (own_en bf3 7), (own_en bf3 2), (own_en bf4 5), (own_en bf4 0), (own_en bf5 3), (own_en bf6 6), (own_en bf6 1), (own_en bf7 4), (.int (nar .byte ch12.toInt8.toInt32))] := by
    intro v hv
    simp only [List.mem_cons, List.not_mem_nil, or_false] at hv
    rcases hv with rfl | rfl | rfl | rfl | rfl | rfl | rfl | rfl | rfl | rfl | rfl | rfl | rfl <;> exact fits_nar_byte _
  refine o_aloadN H59 rfl rfl d1_114 rfl ?_
  refine o_virtual H59 [] [] (rm5 l Z a0 hw b1 b6 [(own_en bf0 3), (own_en bf1 6), (own_en bf1 1), (own_en bf2 4), (own_en bf3 7), (own_en bf3 2), (own_en bf4 5), (own_en bf4 0), (own_en bf5 3), (own_en bf6 6), (own_en bf6 1), (own_en bf7 4), (.int (nar .byte ch12.toInt8.toInt32))] (13 : Int32) cs h59 n0 H59.le f61 FV59 FC59 FO59 AO59 f62 OF rfl (Nat.le_of_ble_eq_true rfl) (S_c.ext (o_kext k60)) hcs) f61 (w27 hw) (w28 hw) (o_nf (w30 hw)) (w30 hw) (w29 hw) (w8 hw) (w31 hw) (by decide) (lenOf pd5 rfl) rfl rfl (by decide) (Nat.le_of_ble_eq_true rfl) (by decide) (by decide) d1_115 rfl ?_
  intro T63 v63 h63 H63 q63
  obtain ⟨r63, b63, rfl, K63, X63, FC63, FV63, A63⟩ := q63
  have k64 := k60.trans K63 all0
  show oG p e below s n0 _ _ _ (T63.setTop (mkF m 118 #[.val (.ref a1), .val (.ref b1), .val (.int bf7), .val (.int (4 : Int32)), .val (.ref a1), .val (.int (8 : Int32)), .val (.int (8 : Int32)), .val (.int x7)] [(.ref r63)]))
  have fin : oA .byte Z h63 b63 (own_enc_8 x0 x1 x2 x3 x4 x5 x6 x7) := by
    have q := A63
    subst e_ch12
    subst e_bf7
    subst e_bf6
    subst e_bf5
    subst e_bf4
    subst e_bf3
    subst e_bf2
    subst e_bf1
    subst e_bf0
    exact q
  exact o_areturn H63 rfl rfl rfl rfl d1_118 (by decide) (by decide) ⟨_, _, rfl, k64, X63, FC63, FV63, fin⟩
set_option maxRecDepth 65536 in
set_option maxHeartbeats 40000000 in
theorem rm1_9 (l : Launch) (Z : State) (a0 : Array Value) (hw : ∀ d ∈ tables_1, d.before a0 Z = true) (a1 : Addr) (al : Addr) (cs : Int32) (x0 x1 x2 x3 x4 x5 x6 x7 x8 : Int32) (h0 : Heap) (n0 : Nat) (Z0 : n0 ≤ h0.size) (AV1 : oA .byte Z h0 a1 [(.int x0), (.int x1), (.int x2), (.int x3), (.int x4), (.int x5), (.int x6), (.int x7), (.int x8)]) (S_a : Sta Z h0 "com/example/encase/encase/codec/Base32" "ALPHABET" "[C" (.ref al)) (AL : oA .char Z h0 al own_alist) (S_c : Sta Z h0 "java/lang/String" "COMPACT_STRINGS" "Z" (.int cs)) (hcs : ¬ cs = 0) :
    oC l Z n0 (⟨"com/example/encase/encase/codec/Base32", "encode", "([B)Ljava/lang/String;"⟩ : MethodName) prog_16_method_2_code 8 (some (.object "java/lang/String")) ({ frames := 5, cells := 6, slots := 60, locals := 90 } : Room) 6 60 #[(.ref a1)] h0 (fun v h => ∃ r b, v = some (.ref r) ∧ Keep h0 h [] ∧ Exa Z h r "java/lang/String" ∧ Fld Z h r "java/lang/String" "coder" "B" (.int 0) ∧ Fld Z h r "java/lang/String" "value" "[B" (.ref b) ∧ oA .byte Z h b (own_enc_9 x0 x1 x2 x3 x4 x5 x6 x7 x8)) := by
  refine oC.of (L := #[.val (.ref a1), .unset, .unset, .unset, .unset, .unset, .unset, .unset]) pn1 Z0 (fun m => by first | (simp [entryFrame, mkF, argsToLocals, Value.category]; done) | rfl) ?_
  intro p e s m below meth c T H
  refine o_new H (w6 hw) (w7 hw) (w8 hw) d1_0 rfl (by decide) (by decide) ?_
  intro T1 h1 b1 g1 H1 E1 A1 D1
  have ne1_al : al ≠ b1 := by rw [g1]; exact Nat.ne_of_lt ((AL.ext (o_kext (Keep.refl h0 [])))).lt
  have ne1_a1 : a1 ≠ b1 := by rw [g1]; exact Nat.ne_of_lt ((AV1.ext (o_kext (Keep.refl h0 [])))).lt
  have z1 : n0 ≤ b1 := by rw [g1]; exact H.le
  have y1 : h0.size ≤ b1 := by rw [g1]; exact (Keep.refl h0 []).1
  have k2 := (Keep.refl h0 []).ext E1
  have f3 : Fld Z h1 b1 "java/lang/AbstractStringBuilder" "value" "[B" .null := D1 (Or.inl (w24 hw)) (ty := (.array .byte)) (by decide)
  have f4 : Fld Z h1 b1 "java/lang/AbstractStringBuilder" "coder" "B" (.int (0 : Int32)) := D1 (Or.inl (w26 hw)) (ty := .byte) (by decide)
  have f5 : Fld Z h1 b1 "java/lang/AbstractStringBuilder" "count" "I" (.int (0 : Int32)) := D1 (Or.inl (w57 hw)) (ty := .int) (by decide)
  refine o_dup H1 rfl d1_3 rfl ?_
  refine o_aloadN H1 rfl rfl d1_4 rfl ?_
  refine o_arraylength H1 (9 : Int32) (AV1.ext (o_kext k2)) rfl d1_5 rfl ?_
  refine o_bipush H1 (8 : Int32) rfl d1_6 rfl ?_
  refine o_imul H1 d1_8 rfl ?_
  refine o_fold (72 : Int32) (by decide) ?_
  refine o_iconst H1 (4 : Int32) rfl d1_9 rfl ?_
  refine o_iadd H1 d1_10 rfl ?_
  refine o_fold (76 : Int32) (by decide) ?_
  refine o_iconst H1 (5 : Int32) rfl d1_11 rfl ?_
  refine o_idiv H1 (by decide) d1_12 rfl ?_
  refine o_fold (15 : Int32) (by decide) ?_
  refine o_special H1 [(.int (15 : Int32))] [(.ref b1)] (rm2 l Z a0 hw b1 (15 : Int32) 15 cs h1 n0 H1.le A1 z1 f3 f4 f5 (by decide) (by decide) (S_c.ext (o_kext k2)) hcs) rfl (w9 hw) (w10 hw) (w8 hw) (w11 hw) (by decide) (lenOf pd2 rfl) rfl rfl (by decide) (Nat.le_of_ble_eq_true rfl) (by decide) (by decide) d1_13 rfl ?_
  intro T6 v6 h6 H6 q6
  obtain ⟨rfl, b6, K6, FV6, FC6, FN6, A6, X6, z6, y06, ne6⟩ := q6
  have k7 := k2.trans K6 (allS (Or.inr y1) all0)
  have f8 := A1.keep K6
  have y6 : h0.size ≤ b6 := Nat.le_trans (k2).1 y06
  have AA6 : oA .byte Z h6 b6 [(.int 0), (.int 0), (.int 0), (.int 0), (.int 0), (.int 0), (.int 0), (.int 0), (.int 0), (.int 0), (.int 0), (.int 0), (.int 0), (.int 0), (.int 0)] := A6
  show oG p e below s n0 _ _ _ (T6.setTop (mkF m 16 #[.val (.ref a1), .unset, .unset, .unset, .unset, .unset, .unset, .unset] [(.ref b1)]))
  refine o_astoreN H6 (L' := #[.val (.ref a1), .val (.ref b1), .unset, .unset, .unset, .unset, .unset, .unset]) rfl rfl d1_16 rfl ?_
  refine o_iconst H6 (0 : Int32) rfl d1_17 rfl ?_
  refine o_istoreN H6 (L' := #[.val (.ref a1), .val (.ref b1), .val (.int (0 : Int32)), .unset, .unset, .unset, .unset, .unset]) rfl d1_18 rfl ?_
  refine o_iconst H6 (0 : Int32) rfl d1_19 rfl ?_
  refine o_istoreN H6 (L' := #[.val (.ref a1), .val (.ref b1), .val (.int (0 : Int32)), .val (.int (0 : Int32)), .unset, .unset, .unset, .unset]) rfl d1_20 rfl ?_
  refine o_aloadN H6 rfl rfl d1_21 rfl ?_
  refine o_astore H6 (L' := #[.val (.ref a1), .val (.ref b1), .val (.int (0 : Int32)), .val (.int (0 : Int32)), .val (.ref a1), .unset, .unset, .unset]) rfl rfl d1_22 rfl ?_
  refine o_aload H6 rfl rfl d1_24 rfl ?_
  refine o_arraylength H6 (9 : Int32) (AV1.ext (o_kext k7)) rfl d1_26 rfl ?_
  refine o_istore H6 (L' := #[.val (.ref a1), .val (.ref b1), .val (.int (0 : Int32)), .val (.int (0 : Int32)), .val (.ref a1), .val (.int (9 : Int32)), .unset, .unset]) rfl d1_27 rfl ?_
  refine o_iconst H6 (0 : Int32) rfl d1_29 rfl ?_
  refine o_istore H6 (L' := #[.val (.ref a1), .val (.ref b1), .val (.int (0 : Int32)), .val (.int (0 : Int32)), .val (.ref a1), .val (.int (9 : Int32)), .val (.int (0 : Int32)), .unset]) rfl d1_30 rfl ?_
  obtain ⟨bf0, e_bf0⟩ : ∃ z : Int32, z = own_bf (0 : Int32) x0 := ⟨_, rfl⟩
  refine rmB l Z a0 hw a1 b1 _ h6 n0 _ 0 (0 : Int32) bf0 (0 : Int32) (8 : Int32) (0 : Int32) (9 : Int32) x0 _ (AV1.ext (o_kext k7)) (by decide) (by decide) rfl e_bf0.symm (by decide) (Or.inl rfl) p e s m below meth c T6 H6 ?_
  refine rmC l Z a0 hw a1 b1 b6 al _ h6 n0 bf0 (8 : Int32) (3 : Int32) (0 : Int32) (9 : Int32) (0 : Int32) (1 : Int32) cs [(.int 0), (.int 0), (.int 0), (.int 0), (.int 0), (.int 0), (.int 0), (.int 0), (.int 0), (.int 0), (.int 0), (.int 0), (.int 0), (.int 0), (.int 0)] [(own_en bf0 3), (.int 0), (.int 0), (.int 0), (.int 0), (.int 0), (.int 0), (.int 0), (.int 0), (.int 0), (.int 0), (.int 0), (.int 0), (.int 0), (.int 0)] 0 _ (by decide) (by decide) f8 z1 FV6 FC6 FN6 AA6 z6 ne6 (by decide) (Nat.le_of_ble_eq_true rfl) (Nat.le_of_ble_eq_true rfl) (by decide) rfl (S_a.ext (o_kext k7)) (AL.ext (o_kext k7)) (S_c.ext (o_kext k7)) hcs p e s m below meth c T6 H6 ?_
  intro T9 h9 H9 K9 FV9 FC9 FN9 A9
  have k10 := k7.trans K9 (allS (Or.inr y1) (allS (Or.inr y6) all0))
  have f11 := f8.keep K9
  have f12 := X6.keep K9
  refine rmE l Z a0 hw a1 b1 _ h9 n0 bf0 (3 : Int32) (0 : Int32) (1 : Int32) (9 : Int32) _ (by decide) (by decide) p e s m below meth c T9 H9 ?_
  obtain ⟨bf1, e_bf1⟩ : ∃ z : Int32, z = own_bf bf0 x1 := ⟨_, rfl⟩
  refine rmB l Z a0 hw a1 b1 _ h9 n0 _ 1 bf0 bf1 (3 : Int32) (11 : Int32) (1 : Int32) (9 : Int32) x1 _ (AV1.ext (o_kext k10)) (by decide) (by decide) rfl e_bf1.symm (by decide) (Or.inr ⟨_, rfl⟩) p e s m below meth c T9 H9 ?_
  refine rmC l Z a0 hw a1 b1 b6 al _ h9 n0 bf1 (11 : Int32) (6 : Int32) (1 : Int32) (9 : Int32) (1 : Int32) (2 : Int32) cs [(own_en bf0 3), (.int 0), (.int 0), (.int 0), (.int 0), (.int 0), (.int 0), (.int 0), (.int 0), (.int 0), (.int 0), (.int 0), (.int 0), (.int 0), (.int 0)] [(own_en bf0 3), (own_en bf1 6), (.int 0), (.int 0), (.int 0), (.int 0), (.int 0), (.int 0), (.int 0), (.int 0), (.int 0), (.int 0), (.int 0), (.int 0), (.int 0)] 1 _ (by decide) (by decide) f11 z1 FV9 FC9 FN9 A9 z6 ne6 (by decide) (Nat.le_of_ble_eq_true rfl) (Nat.le_of_ble_eq_true rfl) (by decide) rfl (S_a.ext (o_kext k10)) (AL.ext (o_kext k10)) (S_c.ext (o_kext k10)) hcs p e s m below meth c T9 H9 ?_
  intro T13 h13 H13 K13 FV13 FC13 FN13 A13
  have k14 := k10.trans K13 (allS (Or.inr y1) (allS (Or.inr y6) all0))
  have f15 := f11.keep K13
  have f16 := f12.keep K13
  refine rmC l Z a0 hw a1 b1 b6 al _ h13 n0 bf1 (6 : Int32) (1 : Int32) (1 : Int32) (9 : Int32) (2 : Int32) (3 : Int32) cs [(own_en bf0 3), (own_en bf1 6), (.int 0), (.int 0), (.int 0), (.int 0), (.int 0), (.int 0), (.int 0), (.int 0), (.int 0), (.int 0), (.int 0), (.int 0), (.int 0)] [(own_en bf0 3), (own_en bf1 6), (own_en bf1 1), (.int 0), (.int 0), (.int 0), (.int 0), (.int 0), (.int 0), (.int 0), (.int 0), (.int 0), (.int 0), (.int 0), (.int 0)] 2 _ (by decide) (by decide) f15 z1 FV13 FC13 FN13 A13 z6 ne6 (by decide) (Nat.le_of_ble_eq_true rfl) (Nat.le_of_ble_eq_true rfl) (by decide) rfl (S_a.ext (o_kext k14)) (AL.ext (o_kext k14)) (S_c.ext (o_kext k14)) hcs p e s m below meth c T13 H13 ?_
  intro T17 h17 H17 K17 FV17 FC17 FN17 A17
  have k18 := k14.trans K17 (allS (Or.inr y1) (allS (Or.inr y6) all0))
  have f19 := f15.keep K17
  have f20 := f16.keep K17
  refine rmE l Z a0 hw a1 b1 _ h17 n0 bf1 (1 : Int32) (1 : Int32) (2 : Int32) (9 : Int32) _ (by decide) (by decide) p e s m below meth c T17 H17 ?_
  obtain ⟨bf2, e_bf2⟩ : ∃ z : Int32, z = own_bf bf1 x2 := ⟨_, rfl⟩
  refine rmB l Z a0 hw a1 b1 _ h17 n0 _ 2 bf1 bf2 (1 : Int32) (9 : Int32) (2 : Int32) (9 : Int32) x2 _ (AV1.ext (o_kext k18)) (by decide) (by decide) rfl e_bf2.symm (by decide) (Or.inr ⟨_, rfl⟩) p e s m below meth c T17 H17 ?_
  refine rmC l Z a0 hw a1 b1 b6 al _ h17 n0 bf2 (9 : Int32) (4 : Int32) (2 : Int32) (9 : Int32) (3 : Int32) (4 : Int32) cs [(own_en bf0 3), (own_en bf1 6), (own_en bf1 1), (.int 0), (.int 0), (.int 0), (.int 0), (.int 0), (.int 0), (.int 0), (.int 0), (.int 0), (.int 0), (.int 0), (.int 0)] [(own_en bf0 3), (own_en bf1 6), (own_en bf1 1), (own_en bf2 4), (.int 0), (.int 0), (.int 0), (.int 0), (.int 0), (.int 0), (.int 0), (.int 0), (.int 0), (.int 0), (.int 0)] 3 _ (by decide) (by decide) f19 z1 FV17 FC17 FN17 A17 z6 ne6 (by decide) (Nat.le_of_ble_eq_true rfl) (Nat.le_of_ble_eq_true rfl) (by decide) rfl (S_a.ext (o_kext k18)) (AL.ext (o_kext k18)) (S_c.ext (o_kext k18)) hcs p e s m below meth c T17 H17 ?_
  intro T21 h21 H21 K21 FV21 FC21 FN21 A21
  have k22 := k18.trans K21 (allS (Or.inr y1) (allS (Or.inr y6) all0))
  have f23 := f19.keep K21
  have f24 := f20.keep K21
  refine rmE l Z a0 hw a1 b1 _ h21 n0 bf2 (4 : Int32) (2 : Int32) (3 : Int32) (9 : Int32) _ (by decide) (by decide) p e s m below meth c T21 H21 ?_
  obtain ⟨bf3, e_bf3⟩ : ∃ z : Int32, z = own_bf bf2 x3 := ⟨_, rfl⟩
  refine rmB l Z a0 hw a1 b1 _ h21 n0 _ 3 bf2 bf3 (4 : Int32) (12 : Int32) (3 : Int32) (9 : Int32) x3 _ (AV1.ext (o_kext k22)) (by decide) (by decide) rfl e_bf3.symm (by decide) (Or.inr ⟨_, rfl⟩) p e s m below meth c T21 H21 ?_
  refine rmC l Z a0 hw a1 b1 b6 al _ h21 n0 bf3 (12 : Int32) (7 : Int32) (3 : Int32) (9 : Int32) (4 : Int32) (5 : Int32) cs [(own_en bf0 3), (own_en bf1 6), (own_en bf1 1), (own_en bf2 4), (.int 0), (.int 0), (.int 0), (.int 0), (.int 0), (.int 0), (.int 0), (.int 0), (.int 0), (.int 0), (.int 0)] [(own_en bf0 3), (own_en bf1 6), (own_en bf1 1), (own_en bf2 4), (own_en bf3 7), (.int 0), (.int 0), (.int 0), (.int 0), (.int 0), (.int 0), (.int 0), (.int 0), (.int 0), (.int 0)] 4 _ (by decide) (by decide) f23 z1 FV21 FC21 FN21 A21 z6 ne6 (by decide) (Nat.le_of_ble_eq_true rfl) (Nat.le_of_ble_eq_true rfl) (by decide) rfl (S_a.ext (o_kext k22)) (AL.ext (o_kext k22)) (S_c.ext (o_kext k22)) hcs p e s m below meth c T21 H21 ?_
  intro T25 h25 H25 K25 FV25 FC25 FN25 A25
  have k26 := k22.trans K25 (allS (Or.inr y1) (allS (Or.inr y6) all0))
  have f27 := f23.keep K25
  have f28 := f24.keep K25
  refine rmC l Z a0 hw a1 b1 b6 al _ h25 n0 bf3 (7 : Int32) (2 : Int32) (3 : Int32) (9 : Int32) (5 : Int32) (6 : Int32) cs [(own_en bf0 3), (own_en bf1 6), (own_en bf1 1), (own_en bf2 4), (own_en bf3 7), (.int 0), (.int 0), (.int 0), (.int 0), (.int 0), (.int 0), (.int 0), (.int 0), (.int 0), (.int 0)] [(own_en bf0 3), (own_en bf1 6), (own_en bf1 1), (own_en bf2 4), (own_en bf3 7), (own_en bf3 2), (.int 0), (.int 0), (.int 0), (.int 0), (.int 0), (.int 0), (.int 0), (.int 0), (.int 0)] 5 _ (by decide) (by decide) f27 z1 FV25 FC25 FN25 A25 z6 ne6 (by decide) (Nat.le_of_ble_eq_true rfl) (Nat.le_of_ble_eq_true rfl) (by decide) rfl (S_a.ext (o_kext k26)) (AL.ext (o_kext k26)) (S_c.ext (o_kext k26)) hcs p e s m below meth c T25 H25 ?_
  intro T29 h29 H29 K29 FV29 FC29 FN29 A29
  have k30 := k26.trans K29 (allS (Or.inr y1) (allS (Or.inr y6) all0))
  have f31 := f27.keep K29
  have f32 := f28.keep K29
  refine rmE l Z a0 hw a1 b1 _ h29 n0 bf3 (2 : Int32) (3 : Int32) (4 : Int32) (9 : Int32) _ (by decide) (by decide) p e s m below meth c T29 H29 ?_
  obtain ⟨bf4, e_bf4⟩ : ∃ z : Int32, z = own_bf bf3 x4 := ⟨_, rfl⟩
  refine rmB l Z a0 hw a1 b1 _ h29 n0 _ 4 bf3 bf4 (2 : Int32) (10 : Int32) (4 : Int32) (9 : Int32) x4 _ (AV1.ext (o_kext k30)) (by decide) (by decide) rfl e_bf4.symm (by decide) (Or.inr ⟨_, rfl⟩) p e s m below meth c T29 H29 ?_
  refine rmC l Z a0 hw a1 b1 b6 al _ h29 n0 bf4 (10 : Int32) (5 : Int32) (4 : Int32) (9 : Int32) (6 : Int32) (7 : Int32) cs [(own_en bf0 3), (own_en bf1 6), (own_en bf1 1), (own_en bf2 4), (own_en bf3 7), (own_en bf3 2), (.int 0), (.int 0), (.int 0), (.int 0), (.int 0), (.int 0), (.int 0), (.int 0), (.int 0)] [(own_en bf0 3), (own_en bf1 6), (own_en bf1 1), (own_en bf2 4), (own_en bf3 7), (own_en bf3 2), (own_en bf4 5), (.int 0), (.int 0), (.int 0), (.int 0), (.int 0), (.int 0), (.int 0), (.int 0)] 6 _ (by decide) (by decide) f31 z1 FV29 FC29 FN29 A29 z6 ne6 (by decide) (Nat.le_of_ble_eq_true rfl) (Nat.le_of_ble_eq_true rfl) (by decide) rfl (S_a.ext (o_kext k30)) (AL.ext (o_kext k30)) (S_c.ext (o_kext k30)) hcs p e s m below meth c T29 H29 ?_
  intro T33 h33 H33 K33 FV33 FC33 FN33 A33
  have k34 := k30.trans K33 (allS (Or.inr y1) (allS (Or.inr y6) all0))
  have f35 := f31.keep K33
  have f36 := f32.keep K33
  refine rmC l Z a0 hw a1 b1 b6 al _ h33 n0 bf4 (5 : Int32) (0 : Int32) (4 : Int32) (9 : Int32) (7 : Int32) (8 : Int32) cs [(own_en bf0 3), (own_en bf1 6), (own_en bf1 1), (own_en bf2 4), (own_en bf3 7), (own_en bf3 2), (own_en bf4 5), (.int 0), (.int 0), (.int 0), (.int 0), (.int 0), (.int 0), (.int 0), (.int 0)] [(own_en bf0 3), (own_en bf1 6), (own_en bf1 1), (own_en bf2 4), (own_en bf3 7), (own_en bf3 2), (own_en bf4 5), (own_en bf4 0), (.int 0), (.int 0), (.int 0), (.int 0), (.int 0), (.int 0), (.int 0)] 7 _ (by decide) (by decide) f35 z1 FV33 FC33 FN33 A33 z6 ne6 (by decide) (Nat.le_of_ble_eq_true rfl) (Nat.le_of_ble_eq_true rfl) (by decide) rfl (S_a.ext (o_kext k34)) (AL.ext (o_kext k34)) (S_c.ext (o_kext k34)) hcs p e s m below meth c T33 H33 ?_
  intro T37 h37 H37 K37 FV37 FC37 FN37 A37
  have k38 := k34.trans K37 (allS (Or.inr y1) (allS (Or.inr y6) all0))
  have f39 := f35.keep K37
  have f40 := f36.keep K37
  refine rmE l Z a0 hw a1 b1 _ h37 n0 bf4 (0 : Int32) (4 : Int32) (5 : Int32) (9 : Int32) _ (by decide) (by decide) p e s m below meth c T37 H37 ?_
  obtain ⟨bf5, e_bf5⟩ : ∃ z : Int32, z = own_bf bf4 x5 := ⟨_, rfl⟩
  refine rmB l Z a0 hw a1 b1 _ h37 n0 _ 5 bf4 bf5 (0 : Int32) (8 : Int32) (5 : Int32) (9 : Int32) x5 _ (AV1.ext (o_kext k38)) (by decide) (by decide) rfl e_bf5.symm (by decide) (Or.inr ⟨_, rfl⟩) p e s m below meth c T37 H37 ?_
  refine rmC l Z a0 hw a1 b1 b6 al _ h37 n0 bf5 (8 : Int32) (3 : Int32) (5 : Int32) (9 : Int32) (8 : Int32) (9 : Int32) cs [(own_en bf0 3), (own_en bf1 6), (own_en bf1 1), (own_en bf2 4), (own_en bf3 7), (own_en bf3 2), (own_en bf4 5), (own_en bf4 0), (.int 0), (.int 0), (.int 0), (.int 0), (.int 0), (.int 0), (.int 0)] [(own_en bf0 3), (own_en bf1 6), (own_en bf1 1), (own_en bf2 4), (own_en bf3 7), (own_en bf3 2), (own_en bf4 5), (own_en bf4 0), (own_en bf5 3), (.int 0), (.int 0), (.int 0), (.int 0), (.int 0), (.int 0)] 8 _ (by decide) (by decide) f39 z1 FV37 FC37 FN37 A37 z6 ne6 (by decide) (Nat.le_of_ble_eq_true rfl) (Nat.le_of_ble_eq_true rfl) (by decide) rfl (S_a.ext (o_kext k38)) (AL.ext (o_kext k38)) (S_c.ext (o_kext k38)) hcs p e s m below meth c T37 H37 ?_
  intro T41 h41 H41 K41 FV41 FC41 FN41 A41
  have k42 := k38.trans K41 (allS (Or.inr y1) (allS (Or.inr y6) all0))
  have f43 := f39.keep K41
  have f44 := f40.keep K41
  refine rmE l Z a0 hw a1 b1 _ h41 n0 bf5 (3 : Int32) (5 : Int32) (6 : Int32) (9 : Int32) _ (by decide) (by decide) p e s m below meth c T41 H41 ?_
  obtain ⟨bf6, e_bf6⟩ : ∃ z : Int32, z = own_bf bf5 x6 := ⟨_, rfl⟩
  refine rmB l Z a0 hw a1 b1 _ h41 n0 _ 6 bf5 bf6 (3 : Int32) (11 : Int32) (6 : Int32) (9 : Int32) x6 _ (AV1.ext (o_kext k42)) (by decide) (by decide) rfl e_bf6.symm (by decide) (Or.inr ⟨_, rfl⟩) p e s m below meth c T41 H41 ?_
  refine rmC l Z a0 hw a1 b1 b6 al _ h41 n0 bf6 (11 : Int32) (6 : Int32) (6 : Int32) (9 : Int32) (9 : Int32) (10 : Int32) cs [(own_en bf0 3), (own_en bf1 6), (own_en bf1 1), (own_en bf2 4), (own_en bf3 7), (own_en bf3 2), (own_en bf4 5), (own_en bf4 0), (own_en bf5 3), (.int 0), (.int 0), (.int 0), (.int 0), (.int 0), (.int 0)] [(own_en bf0 3), (own_en bf1 6), (own_en bf1 1), (own_en bf2 4), (own_en bf3 7), (own_en bf3 2), (own_en bf4 5), (own_en bf4 0), (own_en bf5 3), (own_en bf6 6), (.int 0), (.int 0), (.int 0), (.int 0), (.int 0)] 9 _ (by decide) (by decide) f43 z1 FV41 FC41 FN41 A41 z6 ne6 (by decide) (Nat.le_of_ble_eq_true rfl) (Nat.le_of_ble_eq_true rfl) (by decide) rfl (S_a.ext (o_kext k42)) (AL.ext (o_kext k42)) (S_c.ext (o_kext k42)) hcs p e s m below meth c T41 H41 ?_
  intro T45 h45 H45 K45 FV45 FC45 FN45 A45
  have k46 := k42.trans K45 (allS (Or.inr y1) (allS (Or.inr y6) all0))
  have f47 := f43.keep K45
  have f48 := f44.keep K45
  refine rmC l Z a0 hw a1 b1 b6 al _ h45 n0 bf6 (6 : Int32) (1 : Int32) (6 : Int32) (9 : Int32) (10 : Int32) (11 : Int32) cs [(own_en bf0 3), (own_en bf1 6), (own_en bf1 1), (own_en bf2 4), (own_en bf3 7), (own_en bf3 2), (own_en bf4 5), (own_en bf4 0), (own_en bf5 3), (own_en bf6 6), (.int 0), (.int 0), (.int 0), (.int 0), (.int 0)] [(own_en bf0 3), (own_en bf1 6), (own_en bf1 1), (own_en bf2 4), (own_en bf3 7), (own_en bf3 2), (own_en bf4 5), (own_en bf4 0), (own_en bf5 3), (own_en bf6 6), (own_en bf6 1), (.int 0), (.int 0), (.int 0), (.int 0)] 10 _ (by decide) (by decide) f47 z1 FV45 FC45 FN45 A45 z6 ne6 (by decide) (Nat.le_of_ble_eq_true rfl) (Nat.le_of_ble_eq_true rfl) (by decide) rfl (S_a.ext (o_kext k46)) (AL.ext (o_kext k46)) (S_c.ext (o_kext k46)) hcs p e s m below meth c T45 H45 ?_
  intro T49 h49 H49 K49 FV49 FC49 FN49 A49
  have k50 := k46.trans K49 (allS (Or.inr y1) (allS (Or.inr y6) all0))
  have f51 := f47.keep K49
  have f52 := f48.keep K49
  refine rmE l Z a0 hw a1 b1 _ h49 n0 bf6 (1 : Int32) (6 : Int32) (7 : Int32) (9 : Int32) _ (by decide) (by decide) p e s m below meth c T49 H49 ?_
  obtain ⟨bf7, e_bf7⟩ : ∃ z : Int32, z = own_bf bf6 x7 := ⟨_, rfl⟩
  refine rmB l Z a0 hw a1 b1 _ h49 n0 _ 7 bf6 bf7 (1 : Int32) (9 : Int32) (7 : Int32) (9 : Int32) x7 _ (AV1.ext (o_kext k50)) (by decide) (by decide) rfl e_bf7.symm (by decide) (Or.inr ⟨_, rfl⟩) p e s m below meth c T49 H49 ?_
  refine rmC l Z a0 hw a1 b1 b6 al _ h49 n0 bf7 (9 : Int32) (4 : Int32) (7 : Int32) (9 : Int32) (11 : Int32) (12 : Int32) cs [(own_en bf0 3), (own_en bf1 6), (own_en bf1 1), (own_en bf2 4), (own_en bf3 7), (own_en bf3 2), (own_en bf4 5), (own_en bf4 0), (own_en bf5 3), (own_en bf6 6), (own_en bf6 1), (.int 0), (.int 0), (.int 0), (.int 0)] [(own_en bf0 3), (own_en bf1 6), (own_en bf1 1), (own_en bf2 4), (own_en bf3 7), (own_en bf3 2), (own_en bf4 5), (own_en bf4 0), (own_en bf5 3), (own_en bf6 6), (own_en bf6 1), (own_en bf7 4), (.int 0), (.int 0), (.int 0)] 11 _ (by decide) (by decide) f51 z1 FV49 FC49 FN49 A49 z6 ne6 (by decide) (Nat.le_of_ble_eq_true rfl) (Nat.le_of_ble_eq_true rfl) (by decide) rfl (S_a.ext (o_kext k50)) (AL.ext (o_kext k50)) (S_c.ext (o_kext k50)) hcs p e s m below meth c T49 H49 ?_
  intro T53 h53 H53 K53 FV53 FC53 FN53 A53
  have k54 := k50.trans K53 (allS (Or.inr y1) (allS (Or.inr y6) all0))
  have f55 := f51.keep K53
  have f56 := f52.keep K53
  refine rmE l Z a0 hw a1 b1 _ h53 n0 bf7 (4 : Int32) (7 : Int32) (8 : Int32) (9 : Int32) _ (by decide) (by decide) p e s m below meth c T53 H53 ?_
  obtain ⟨bf8, e_bf8⟩ : ∃ z : Int32, z = own_bf bf7 x8 := ⟨_, rfl⟩
  refine rmB l Z a0 hw a1 b1 _ h53 n0 _ 8 bf7 bf8 (4 : Int32) (12 : Int32) (8 : Int32) (9 : Int32) x8 _ (AV1.ext (o_kext k54)) (by decide) (by decide) rfl e_bf8.symm (by decide) (Or.inr ⟨_, rfl⟩) p e s m below meth c T53 H53 ?_
  refine rmC l Z a0 hw a1 b1 b6 al _ h53 n0 bf8 (12 : Int32) (7 : Int32) (8 : Int32) (9 : Int32) (12 : Int32) (13 : Int32) cs [(own_en bf0 3), (own_en bf1 6), (own_en bf1 1), (own_en bf2 4), (own_en bf3 7), (own_en bf3 2), (own_en bf4 5), (own_en bf4 0), (own_en bf5 3), (own_en bf6 6), (own_en bf6 1), (own_en bf7 4), (.int 0), (.int 0), (.int 0)] [(own_en bf0 3), (own_en bf1 6), (own_en bf1 1), (own_en bf2 4), (own_en bf3 7), (own_en bf3 2), (own_en bf4 5), (own_en bf4 0), (own_en bf5 3), (own_en bf6 6), (own_en bf6 1), (own_en bf7 4), (own_en bf8 7), (.int 0), (.int 0)] 12 _ (by decide) (by decide) f55 z1 FV53 FC53 FN53 A53 z6 ne6 (by decide) (Nat.le_of_ble_eq_true rfl) (Nat.le_of_ble_eq_true rfl) (by decide) rfl (S_a.ext (o_kext k54)) (AL.ext (o_kext k54)) (S_c.ext (o_kext k54)) hcs p e s m below meth c T53 H53 ?_
  intro T57 h57 H57 K57 FV57 FC57 FN57 A57
  have k58 := k54.trans K57 (allS (Or.inr y1) (allS (Or.inr y6) all0))
  have f59 := f55.keep K57
  have f60 := f56.keep K57
  refine rmC l Z a0 hw a1 b1 b6 al _ h57 n0 bf8 (7 : Int32) (2 : Int32) (8 : Int32) (9 : Int32) (13 : Int32) (14 : Int32) cs [(own_en bf0 3), (own_en bf1 6), (own_en bf1 1), (own_en bf2 4), (own_en bf3 7), (own_en bf3 2), (own_en bf4 5), (own_en bf4 0), (own_en bf5 3), (own_en bf6 6), (own_en bf6 1), (own_en bf7 4), (own_en bf8 7), (.int 0), (.int 0)] [(own_en bf0 3), (own_en bf1 6), (own_en bf1 1), (own_en bf2 4), (own_en bf3 7), (own_en bf3 2), (own_en bf4 5), (own_en bf4 0), (own_en bf5 3), (own_en bf6 6), (own_en bf6 1), (own_en bf7 4), (own_en bf8 7), (own_en bf8 2), (.int 0)] 13 _ (by decide) (by decide) f59 z1 FV57 FC57 FN57 A57 z6 ne6 (by decide) (Nat.le_of_ble_eq_true rfl) (Nat.le_of_ble_eq_true rfl) (by decide) rfl (S_a.ext (o_kext k58)) (AL.ext (o_kext k58)) (S_c.ext (o_kext k58)) hcs p e s m below meth c T57 H57 ?_
  intro T61 h61 H61 K61 FV61 FC61 FN61 A61
  have k62 := k58.trans K61 (allS (Or.inr y1) (allS (Or.inr y6) all0))
  have f63 := f59.keep K61
  have f64 := f60.keep K61
  refine rmE l Z a0 hw a1 b1 _ h61 n0 bf8 (2 : Int32) (8 : Int32) (9 : Int32) (9 : Int32) _ (by decide) (by decide) p e s m below meth c T61 H61 ?_
  refine o_iload H61 rfl d1_32 rfl ?_
  refine o_iload H61 rfl d1_34 rfl ?_
  refine o_icmp_t H61 d1_36 (by decide) (pt := 93) (by decide) (by decide) ?_
  refine o_iloadN H61 rfl d1_93 rfl ?_
  refine o_if_f H61 d1_94 (by decide) rfl ?_
  refine o_aloadN H61 rfl rfl d1_97 rfl ?_
  refine o_getS H61 (host := "") (Or.inl (w115 hw)) (S_a.ext (o_kext k62)) d1_98 rfl ?_
  intro T65 H66
  refine o_iloadN H66 rfl d1_101 rfl ?_
  refine o_iconst H66 (5 : Int32) rfl d1_102 rfl ?_
  refine o_iloadN H66 rfl d1_103 rfl ?_
  refine o_isub H66 d1_104 rfl ?_
  refine o_fold (3 : Int32) (by decide) ?_
  refine o_ishl H66 d1_105 rfl ?_
  refine o_bipush H66 (31 : Int32) rfl d1_106 rfl ?_
  refine o_iand H66 d1_108 rfl ?_
  refine o_caload H66 ((((bf8 <<< ((3 : Int32) &&& 31)) &&& (31 : Int32))).toInt.toNat) (.int (own_al ((bf8 <<< ((3 : Int32) &&& 31)) &&& (31 : Int32)))) (AL.ext (o_kext k62)) (own_ix1 (bf8 <<< ((3 : Int32) &&& 31))) (own_ix2 (bf8 <<< ((3 : Int32) &&& 31))) d1_109 rfl ?_
  obtain ⟨ch14, e_ch14⟩ : ∃ z : Int32, z = (own_al ((bf8 <<< ((3 : Int32) &&& 31)) &&& (31 : Int32))) := ⟨_, rfl⟩
  rw [← e_ch14]
  have hc_ch14 : ¬ 255 < ch14 := by rw [e_ch14]; exact own_al255 _
  refine o_virtual H66 [(.int ch14)] [] (rm21 l Z a0 hw b1 ch14 b6 [(own_en bf0 3), (own_en bf1 6), (own_en bf1 1), (own_en bf2 4), (own_en bf3 7), (own_en bf3 2), (own_en bf4 5), (own_en bf4 0), (own_en bf5 3), (own_en bf6 6), (own_en bf6 1), (own_en bf7 4), (own_en bf8 7), (own_en bf8 2), (.int 0)] (14 : Int32) 14 cs h61 n0 H66.le f63 z1 FV61 FC61 FN61 A61 z6 ne6 (by decide) (Nat.le_of_ble_eq_true rfl) (Nat.le_of_ble_eq_true rfl) hc_ch14 (S_c.ext (o_kext k62)) hcs) f63 (w117 hw) (w118 hw) (o_nf (w120 hw)) (w120 hw) (w119 hw) (w8 hw) (w121 hw) (by decide) (lenOf pd21 rfl) rfl rfl (by decide) (Nat.le_of_ble_eq_true rfl) (by decide) (by decide) d1_110 rfl ?_
  intro T67 v67 h67 H67 q67
  obtain ⟨rfl, K67, FV67, FC67, FN67, A67⟩ := q67
  have k68 := k62.trans K67 (allS (Or.inr y1) (allS (Or.inr y6) all0))
  have f69 := f63.keep K67
  have f70 := f64.keep K67
  have FO67 : Fld Z h67 b1 "java/lang/AbstractStringBuilder" "count" "I" (.int (15 : Int32)) := FN67
  have AO67 : oA .byte Z h67 b6 [(own_en bf0 3), (own_en bf1 6), (own_en bf1 1), (own_en bf2 4), (own_en bf3 7), (own_en bf3 2), (own_en bf4 5), (own_en bf4 0), (own_en bf5 3), (own_en bf6 6), (own_en bf6 1), (own_en bf7 4), (own_en bf8 7), (own_en bf8 2), (.int (nar .byte ch14.toInt8.toInt32))] := A67
  show oG p e below s n0 _ _ _ (T67.setTop (mkF m 113 #[.val (.ref a1), .val (.ref b1), .val (.int bf8), .val (.int (2 : Int32)), .val (.ref a1), .val (.int (9 : Int32)), .val (.int (9 : Int32)), .val (.int x8)] [(.ref b1)]))
  refine o_pop H67 rfl d1_113 rfl ?_
  have OF : oFit .byte [(own_en bf0 3), (own_en bf1 6), (own_en bf1 1), (own_en bf2 4), (own_en bf3 7), (own_en bf3 2), (own_en bf4 5), (own_en bf4 0), (own_en bf5 3), (own_en bf6 6), (own_en bf6 1), (own_en bf7 4), (own_en bf8 7), (own_en bf8 2), (.int (nar .byte ch14.toInt8.toInt32))] := by
    intro v hv
    simp only [List.mem_cons, List.not_mem_nil, or_false] at hv
    rcases hv with rfl | rfl | rfl | rfl | rfl | rfl | rfl | rfl | rfl | rfl | rfl | rfl | rfl | rfl | rfl <;> exact fits_nar_byte _
  refine o_aloadN H67 rfl rfl d1_114 rfl ?_
  refine o_virtual H67 [] [] (rm5 l Z a0 hw b1 b6 [(own_en bf0 3), (own_en bf1 6), (own_en bf1 1), (own_en bf2 4), (own_en bf3 7), (own_en bf3 2), (own_en bf4 5), (own_en bf4 0), (own_en bf5 3), (own_en bf6 6), (own_en bf6 1), (own_en bf7 4), (own_en bf8 7), (own_en bf8 2), (.int (nar .byte ch14.toInt8.toInt32))] (15 : Int32) cs h67 n0 H67.le f69 FV67 FC67 FO67 AO67 f70 OF rfl (Nat.le_of_ble_eq_true rfl) (S_c.ext (o_kext k68)) hcs) f69 (w27 hw) (w28 hw) (o_nf (w30 hw)) (w30 hw) (w29 hw) (w8 hw) (w31 hw) (by decide) (lenOf pd5 rfl) rfl rfl (by decide) (Nat.le_of_ble_eq_true rfl) (by decide) (by decide) d1_115 rfl ?_
  intro T71 v71 h71 H71 q71
  obtain ⟨r71, b71, rfl, K71, X71, FC71, FV71, A71⟩ := q71
  have k72 := k68.trans K71 all0
  show oG p e below s n0 _ _ _ (T71.setTop (mkF m 118 #[.val (.ref a1), .val (.ref b1), .val (.int bf8), .val (.int (2 : Int32)), .val (.ref a1), .val (.int (9 : Int32)), .val (.int (9 : Int32)), .val (.int x8)] [(.ref r71)]))
  have fin : oA .byte Z h71 b71 (own_enc_9 x0 x1 x2 x3 x4 x5 x6 x7 x8) := by
    have q := A71
    subst e_ch14
    subst e_bf8
    subst e_bf7
    subst e_bf6
    subst e_bf5
    subst e_bf4
    subst e_bf3
    subst e_bf2
    subst e_bf1
    subst e_bf0
    exact q
  exact o_areturn H71 rfl rfl rfl rfl d1_118 (by decide) (by decide) ⟨_, _, rfl, k72, X71, FC71, FV71, fin⟩
set_option maxRecDepth 65536 in
set_option maxHeartbeats 40000000 in
theorem rm1_10 (l : Launch) (Z : State) (a0 : Array Value) (hw : ∀ d ∈ tables_1, d.before a0 Z = true) (a1 : Addr) (al : Addr) (cs : Int32) (x0 x1 x2 x3 x4 x5 x6 x7 x8 x9 : Int32) (h0 : Heap) (n0 : Nat) (Z0 : n0 ≤ h0.size) (AV1 : oA .byte Z h0 a1 [(.int x0), (.int x1), (.int x2), (.int x3), (.int x4), (.int x5), (.int x6), (.int x7), (.int x8), (.int x9)]) (S_a : Sta Z h0 "com/example/encase/encase/codec/Base32" "ALPHABET" "[C" (.ref al)) (AL : oA .char Z h0 al own_alist) (S_c : Sta Z h0 "java/lang/String" "COMPACT_STRINGS" "Z" (.int cs)) (hcs : ¬ cs = 0) :
    oC l Z n0 (⟨"com/example/encase/encase/codec/Base32", "encode", "([B)Ljava/lang/String;"⟩ : MethodName) prog_16_method_2_code 8 (some (.object "java/lang/String")) ({ frames := 5, cells := 6, slots := 60, locals := 90 } : Room) 6 60 #[(.ref a1)] h0 (fun v h => ∃ r b, v = some (.ref r) ∧ Keep h0 h [] ∧ Exa Z h r "java/lang/String" ∧ Fld Z h r "java/lang/String" "coder" "B" (.int 0) ∧ Fld Z h r "java/lang/String" "value" "[B" (.ref b) ∧ oA .byte Z h b (own_enc_10 x0 x1 x2 x3 x4 x5 x6 x7 x8 x9)) := by
  refine oC.of (L := #[.val (.ref a1), .unset, .unset, .unset, .unset, .unset, .unset, .unset]) pn1 Z0 (fun m => by first | (simp [entryFrame, mkF, argsToLocals, Value.category]; done) | rfl) ?_
  intro p e s m below meth c T H
  refine o_new H (w6 hw) (w7 hw) (w8 hw) d1_0 rfl (by decide) (by decide) ?_
  intro T1 h1 b1 g1 H1 E1 A1 D1
  have ne1_al : al ≠ b1 := by rw [g1]; exact Nat.ne_of_lt ((AL.ext (o_kext (Keep.refl h0 [])))).lt
  have ne1_a1 : a1 ≠ b1 := by rw [g1]; exact Nat.ne_of_lt ((AV1.ext (o_kext (Keep.refl h0 [])))).lt
  have z1 : n0 ≤ b1 := by rw [g1]; exact H.le
  have y1 : h0.size ≤ b1 := by rw [g1]; exact (Keep.refl h0 []).1
  have k2 := (Keep.refl h0 []).ext E1
  have f3 : Fld Z h1 b1 "java/lang/AbstractStringBuilder" "value" "[B" .null := D1 (Or.inl (w24 hw)) (ty := (.array .byte)) (by decide)
  have f4 : Fld Z h1 b1 "java/lang/AbstractStringBuilder" "coder" "B" (.int (0 : Int32)) := D1 (Or.inl (w26 hw)) (ty := .byte) (by decide)
  have f5 : Fld Z h1 b1 "java/lang/AbstractStringBuilder" "count" "I" (.int (0 : Int32)) := D1 (Or.inl (w57 hw)) (ty := .int) (by decide)
  refine o_dup H1 rfl d1_3 rfl ?_
  refine o_aloadN H1 rfl rfl d1_4 rfl ?_
  refine o_arraylength H1 (10 : Int32) (AV1.ext (o_kext k2)) rfl d1_5 rfl ?_
  refine o_bipush H1 (8 : Int32) rfl d1_6 rfl ?_
  refine o_imul H1 d1_8 rfl ?_
  refine o_fold (80 : Int32) (by decide) ?_
  refine o_iconst H1 (4 : Int32) rfl d1_9 rfl ?_
  refine o_iadd H1 d1_10 rfl ?_
  refine o_fold (84 : Int32) (by decide) ?_
  refine o_iconst H1 (5 : Int32) rfl d1_11 rfl ?_
  refine o_idiv H1 (by decide) d1_12 rfl ?_
  refine o_fold (16 : Int32) (by decide) ?_
  refine o_special H1 [(.int (16 : Int32))] [(.ref b1)] (rm2 l Z a0 hw b1 (16 : Int32) 16 cs h1 n0 H1.le A1 z1 f3 f4 f5 (by decide) (by decide) (S_c.ext (o_kext k2)) hcs) rfl (w9 hw) (w10 hw) (w8 hw) (w11 hw) (by decide) (lenOf pd2 rfl) rfl rfl (by decide) (Nat.le_of_ble_eq_true rfl) (by decide) (by decide) d1_13 rfl ?_
  intro T6 v6 h6 H6 q6
  obtain ⟨rfl, b6, K6, FV6, FC6, FN6, A6, X6, z6, y06, ne6⟩ := q6
  have k7 := k2.trans K6 (allS (Or.inr y1) all0)
  have f8 := A1.keep K6
  have y6 : h0.size ≤ b6 := Nat.le_trans (k2).1 y06
  have AA6 : oA .byte Z h6 b6 [(.int 0), (.int 0), (.int 0), (.int 0), (.int 0), (.int 0), (.int 0), (.int 0), (.int 0), (.int 0), (.int 0), (.int 0), (.int 0), (.int 0), (.int 0), (.int 0)] := A6
  show oG p e below s n0 _ _ _ (T6.setTop (mkF m 16 #[.val (.ref a1), .unset, .unset, .unset, .unset, .unset, .unset, .unset] [(.ref b1)]))
  refine o_astoreN H6 (L' := #[.val (.ref a1), .val (.ref b1), .unset, .unset, .unset, .unset, .unset, .unset]) rfl rfl d1_16 rfl ?_
  refine o_iconst H6 (0 : Int32) rfl d1_17 rfl ?_
  refine o_istoreN H6 (L' := #[.val (.ref a1), .val (.ref b1), .val (.int (0 : Int32)), .unset, .unset, .unset, .unset, .unset]) rfl d1_18 rfl ?_
  refine o_iconst H6 (0 : Int32) rfl d1_19 rfl ?_
  refine o_istoreN H6 (L' := #[.val (.ref a1), .val (.ref b1), .val (.int (0 : Int32)), .val (.int (0 : Int32)), .unset, .unset, .unset, .unset]) rfl d1_20 rfl ?_
  refine o_aloadN H6 rfl rfl d1_21 rfl ?_
  refine o_astore H6 (L' := #[.val (.ref a1), .val (.ref b1), .val (.int (0 : Int32)), .val (.int (0 : Int32)), .val (.ref a1), .unset, .unset, .unset]) rfl rfl d1_22 rfl ?_
  refine o_aload H6 rfl rfl d1_24 rfl ?_
  refine o_arraylength H6 (10 : Int32) (AV1.ext (o_kext k7)) rfl d1_26 rfl ?_
  refine o_istore H6 (L' := #[.val (.ref a1), .val (.ref b1), .val (.int (0 : Int32)), .val (.int (0 : Int32)), .val (.ref a1), .val (.int (10 : Int32)), .unset, .unset]) rfl d1_27 rfl ?_
  refine o_iconst H6 (0 : Int32) rfl d1_29 rfl ?_
  refine o_istore H6 (L' := #[.val (.ref a1), .val (.ref b1), .val (.int (0 : Int32)), .val (.int (0 : Int32)), .val (.ref a1), .val (.int (10 : Int32)), .val (.int (0 : Int32)), .unset]) rfl d1_30 rfl ?_
  obtain ⟨bf0, e_bf0⟩ : ∃ z : Int32, z = own_bf (0 : Int32) x0 := ⟨_, rfl⟩
  refine rmB l Z a0 hw a1 b1 _ h6 n0 _ 0 (0 : Int32) bf0 (0 : Int32) (8 : Int32) (0 : Int32) (10 : Int32) x0 _ (AV1.ext (o_kext k7)) (by decide) (by decide) rfl e_bf0.symm (by decide) (Or.inl rfl) p e s m below meth c T6 H6 ?_
  refine rmC l Z a0 hw a1 b1 b6 al _ h6 n0 bf0 (8 : Int32) (3 : Int32) (0 : Int32) (10 : Int32) (0 : Int32) (1 : Int32) cs [(.int 0), (.int 0), (.int 0), (.int 0), (.int 0), (.int 0), (.int 0), (.int 0), (.int 0), (.int 0), (.int 0), (.int 0), (.int 0), (.int 0), (.int 0), (.int 0)] [(own_en bf0 3), (.int 0), (.int 0), (.int 0), (.int 0), (.int 0), (.int 0), (.int 0), (.int 0), (.int 0), (.int 0), (.int 0), (.int 0), (.int 0), (.int 0), (.int 0)] 0 _ (by decide) (by decide) f8 z1 FV6 FC6 FN6 AA6 z6 ne6 (by decide) (Nat.le_of_ble_eq_true rfl) (Nat.le_of_ble_eq_true rfl) (by decide) rfl (S_a.ext (o_kext k7)) (AL.ext (o_kext k7)) (S_c.ext (o_kext k7)) hcs p e s m below meth c T6 H6 ?_
  intro T9 h9 H9 K9 FV9 FC9 FN9 A9
  have k10 := k7.trans K9 (allS (Or.inr y1) (allS (Or.inr y6) all0))
  have f11 := f8.keep K9
  have f12 := X6.keep K9
  refine rmE l Z a0 hw a1 b1 _ h9 n0 bf0 (3 : Int32) (0 : Int32) (1 : Int32) (10 : Int32) _ (by decide) (by decide) p e s m below meth c T9 H9 ?_
  obtain ⟨bf1, e_bf1⟩ : ∃ z : Int32, z = own_bf bf0 x1 := ⟨_, rfl⟩
  refine rmB l Z a0 hw a1 b1 _ h9 n0 _ 1 bf0 bf1 (3 : Int32) (11 : Int32) (1 : Int32) (10 : Int32) x1 _ (AV1.ext (o_kext k10)) (by decide) (by decide) rfl e_bf1.symm (by decide) (Or.inr ⟨_, rfl⟩) p e s m below meth c T9 H9 ?_
  refine rmC l Z a0 hw a1 b1 b6 al _ h9 n0 bf1 (11 : Int32) (6 : Int32) (1 : Int32) (10 : Int32) (1 : Int32) (2 : Int32) cs [(own_en bf0 3), (.int 0), (.int 0), (.int 0), (.int 0), (.int 0), (.int 0), (.int 0), (.int 0), (.int 0), (.int 0), (.int 0), (.int 0), (.int 0), (.int 0), (.int 0)] [(own_en bf0 3), (own_en bf1 6), (.int 0), (.int 0), (.int 0), (.int 0), (.int 0), (.int 0), (.int 0), (.int 0), (.int 0), (.int 0), (.int 0), (.int 0), (.int 0), (.int 0)] 1 _ (by decide) (by decide) f11 z1 FV9 FC9 FN9 A9 z6 ne6 (by decide) (Nat.le_of_ble_eq_true rfl) (Nat.le_of_ble_eq_true rfl) (by decide) rfl (S_a.ext (o_kext k10)) (AL.ext (o_kext k10)) (S_c.ext (o_kext k10)) hcs p e s m below meth c T9 H9 ?_
  intro T13 h13 H13 K13 FV13 FC13 FN13 A13
  have k14 := k10.trans K13 (allS (Or.inr y1) (allS (Or.inr y6) all0))
  have f15 := f11.keep K13
  have f16 := f12.keep K13
  refine rmC l Z a0 hw a1 b1 b6 al _ h13 n0 bf1 (6 : Int32) (1 : Int32) (1 : Int32) (10 : Int32) (2 : Int32) (3 : Int32) cs [(own_en bf0 3), (own_en bf1 6), (.int 0), (.int 0), (.int 0), (.int 0), (.int 0), (.int 0), (.int 0), (.int 0), (.int 0), (.int 0), (.int 0), (.int 0), (.int 0), (.int 0)] [(own_en bf0 3), (own_en bf1 6), (own_en bf1 1), (.int 0), (.int 0), (.int 0), (.int 0), (.int 0), (.int 0), (.int 0), (.int 0), (.int 0), (.int 0), (.int 0), (.int 0), (.int 0)] 2 _ (by decide) (by decide) f15 z1 FV13 FC13 FN13 A13 z6 ne6 (by decide) (Nat.le_of_ble_eq_true rfl) (Nat.le_of_ble_eq_true rfl) (by decide) rfl (S_a.ext (o_kext k14)) (AL.ext (o_kext k14)) (S_c.ext (o_kext k14)) hcs p e s m below meth c T13 H13 ?_
  intro T17 h17 H17 K17 FV17 FC17 FN17 A17
  have k18 := k14.trans K17 (allS (Or.inr y1) (allS (Or.inr y6) all0))
  have f19 := f15.keep K17
  have f20 := f16.keep K17
  refine rmE l Z a0 hw a1 b1 _ h17 n0 bf1 (1 : Int32) (1 : Int32) (2 : Int32) (10 : Int32) _ (by decide) (by decide) p e s m below meth c T17 H17 ?_
  obtain ⟨bf2, e_bf2⟩ : ∃ z : Int32, z = own_bf bf1 x2 := ⟨_, rfl⟩
  refine rmB l Z a0 hw a1 b1 _ h17 n0 _ 2 bf1 bf2 (1 : Int32) (9 : Int32) (2 : Int32) (10 : Int32) x2 _ (AV1.ext (o_kext k18)) (by decide) (by decide) rfl e_bf2.symm (by decide) (Or.inr ⟨_, rfl⟩) p e s m below meth c T17 H17 ?_
  refine rmC l Z a0 hw a1 b1 b6 al _ h17 n0 bf2 (9 : Int32) (4 : Int32) (2 : Int32) (10 : Int32) (3 : Int32) (4 : Int32) cs [(own_en bf0 3), (own_en bf1 6), (own_en bf1 1), (.int 0), (.int 0), (.int 0), (.int 0), (.int 0), (.int 0), (.int 0), (.int 0), (.int 0), (.int 0), (.int 0), (.int 0), (.int 0)] [(own_en bf0 3), (own_en bf1 6), (own_en bf1 1), (own_en bf2 4), (.int 0), (.int 0), (.int 0), (.int 0), (.int 0), (.int 0), (.int 0), (.int 0), (.int 0), (.int 0), (.int 0), (.int 0)] 3 _ (by decide) (by decide) f19 z1 FV17 FC17 FN17 A17 z6 ne6 (by decide) (Nat.le_of_ble_eq_true rfl) (Nat.le_of_ble_eq_true rfl) (by decide) rfl (S_a.ext (o_kext k18)) (AL.ext (o_kext k18)) (S_c.ext (o_kext k18)) hcs p e s m below meth c T17 H17 ?_
  intro T21 h21 H21 K21 FV21 FC21 FN21 A21
  have k22 := k18.trans K21 (allS (Or.inr y1) (allS (Or.inr y6) all0))
  have f23 := f19.keep K21
  have f24 := f20.keep K21
  refine rmE l Z a0 hw a1 b1 _ h21 n0 bf2 (4 : Int32) (2 : Int32) (3 : Int32) (10 : Int32) _ (by decide) (by decide) p e s m below meth c T21 H21 ?_
  obtain ⟨bf3, e_bf3⟩ : ∃ z : Int32, z = own_bf bf2 x3 := ⟨_, rfl⟩
  refine rmB l Z a0 hw a1 b1 _ h21 n0 _ 3 bf2 bf3 (4 : Int32) (12 : Int32) (3 : Int32) (10 : Int32) x3 _ (AV1.ext (o_kext k22)) (by decide) (by decide) rfl e_bf3.symm (by decide) (Or.inr ⟨_, rfl⟩) p e s m below meth c T21 H21 ?_
  refine rmC l Z a0 hw a1 b1 b6 al _ h21 n0 bf3 (12 : Int32) (7 : Int32) (3 : Int32) (10 : Int32) (4 : Int32) (5 : Int32) cs [(own_en bf0 3), (own_en bf1 6), (own_en bf1 1), (own_en bf2 4), (.int 0), (.int 0), (.int 0), (.int 0), (.int 0), (.int 0), (.int 0), (.int 0), (.int 0), (.int 0), (.int 0), (.int 0)] [(own_en bf0 3), (own_en bf1 6), (own_en bf1 1), (own_en bf2 4), (own_en bf3 7), (.int 0), (.int 0), (.int 0), (.int 0), (.int 0), (.int 0), (.int 0), (.int 0), (.int 0), (.int 0), (.int 0)] 4 _ (by decide) (by decide) f23 z1 FV21 FC21 FN21 A21 z6 ne6 (by decide) (Nat.le_of_ble_eq_true rfl) (Nat.le_of_ble_eq_true rfl) (by decide) rfl (S_a.ext (o_kext k22)) (AL.ext (o_kext k22)) (S_c.ext (o_kext k22)) hcs p e s m below meth c T21 H21 ?_
  intro T25 h25 H25 K25 FV25 FC25 FN25 A25
  have k26 := k22.trans K25 (allS (Or.inr y1) (allS (Or.inr y6) all0))
  have f27 := f23.keep K25
  have f28 := f24.keep K25
  refine rmC l Z a0 hw a1 b1 b6 al _ h25 n0 bf3 (7 : Int32) (2 : Int32) (3 : Int32) (10 : Int32) (5 : Int32) (6 : Int32) cs [(own_en bf0 3), (own_en bf1 6), (own_en bf1 1), (own_en bf2 4), (own_en bf3 7), (.int 0), (.int 0), (.int 0), (.int 0), (.int 0), (.int 0), (.int 0), (.int 0), (.int 0), (.int 0), (.int 0)] [(own_en bf0 3), (own_en bf1 6), (own_en bf1 1), (own_en bf2 4), (own_en bf3 7), (own_en bf3 2), (.int 0), (.int 0), (.int 0), (.int 0), (.int 0), (.int 0), (.int 0), (.int 0), (.int 0), (.int 0)] 5 _ (by decide) (by decide) f27 z1 FV25 FC25 FN25 A25 z6 ne6 (by decide) (Nat.le_of_ble_eq_true rfl) (Nat.le_of_ble_eq_true rfl) (by decide) rfl (S_a.ext (o_kext k26)) (AL.ext (o_kext k26)) (S_c.ext (o_kext k26)) hcs p e s m below meth c T25 H25 ?_
  intro T29 h29 H29 K29 FV29 FC29 FN29 A29
  have k30 := k26.trans K29 (allS (Or.inr y1) (allS (Or.inr y6) all0))
  have f31 := f27.keep K29
  have f32 := f28.keep K29
  refine rmE l Z a0 hw a1 b1 _ h29 n0 bf3 (2 : Int32) (3 : Int32) (4 : Int32) (10 : Int32) _ (by decide) (by decide) p e s m below meth c T29 H29 ?_
  obtain ⟨bf4, e_bf4⟩ : ∃ z : Int32, z = own_bf bf3 x4 := ⟨_, rfl⟩
  refine rmB l Z a0 hw a1 b1 _ h29 n0 _ 4 bf3 bf4 (2 : Int32) (10 : Int32) (4 : Int32) (10 : Int32) x4 _ (AV1.ext (o_kext k30)) (by decide) (by decide) rfl e_bf4.symm (by decide) (Or.inr ⟨_, rfl⟩) p e s m below meth c T29 H29 ?_
  refine rmC l Z a0 hw a1 b1 b6 al _ h29 n0 bf4 (10 : Int32) (5 : Int32) (4 : Int32) (10 : Int32) (6 : Int32) (7 : Int32) cs [(own_en bf0 3), (own_en bf1 6), (own_en bf1 1), (own_en bf2 4), (own_en bf3 7), (own_en bf3 2), (.int 0), (.int 0), (.int 0), (.int 0), (.int 0), (.int 0), (.int 0), (.int 0), (.int 0), (.int 0)] [(own_en bf0 3), (own_en bf1 6), (own_en bf1 1), (own_en bf2 4), (own_en bf3 7), (own_en bf3 2), (own_en bf4 5), (.int 0), (.int 0), (.int 0), (.int 0), (.int 0), (.int 0), (.int 0), (.int 0), (.int 0)] 6 _ (by decide) (by decide) f31 z1 FV29 FC29 FN29 A29 z6 ne6 (by decide) (Nat.le_of_ble_eq_true rfl) (Nat.le_of_ble_eq_true rfl) (by decide) rfl (S_a.ext (o_kext k30)) (AL.ext (o_kext k30)) (S_c.ext (o_kext k30)) hcs p e s m below meth c T29 H29 ?_
  intro T33 h33 H33 K33 FV33 FC33 FN33 A33
  have k34 := k30.trans K33 (allS (Or.inr y1) (allS (Or.inr y6) all0))
  have f35 := f31.keep K33
  have f36 := f32.keep K33
  refine rmC l Z a0 hw a1 b1 b6 al _ h33 n0 bf4 (5 : Int32) (0 : Int32) (4 : Int32) (10 : Int32) (7 : Int32) (8 : Int32) cs [(own_en bf0 3), (own_en bf1 6), (own_en bf1 1), (own_en bf2 4), (own_en bf3 7), (own_en bf3 2), (own_en bf4 5), (.int 0), (.int 0), (.int 0), (.int 0), (.int 0), (.int 0), (.int 0), (.int 0), (.int 0)] [(own_en bf0 3), (own_en bf1 6), (own_en bf1 1), (own_en bf2 4), (own_en bf3 7), (own_en bf3 2), (own_en bf4 5), (own_en bf4 0), (.int 0), (.int 0), (.int 0), (.int 0), (.int 0), (.int 0), (.int 0), (.int 0)] 7 _ (by decide) (by decide) f35 z1 FV33 FC33 FN33 A33 z6 ne6 (by decide) (Nat.le_of_ble_eq_true rfl) (Nat.le_of_ble_eq_true rfl) (by decide) rfl (S_a.ext (o_kext k34)) (AL.ext (o_kext k34)) (S_c.ext (o_kext k34)) hcs p e s m below meth c T33 H33 ?_
  intro T37 h37 H37 K37 FV37 FC37 FN37 A37
  have k38 := k34.trans K37 (allS (Or.inr y1) (allS (Or.inr y6) all0))
  have f39 := f35.keep K37
  have f40 := f36.keep K37
  refine rmE l Z a0 hw a1 b1 _ h37 n0 bf4 (0 : Int32) (4 : Int32) (5 : Int32) (10 : Int32) _ (by decide) (by decide) p e s m below meth c T37 H37 ?_
  obtain ⟨bf5, e_bf5⟩ : ∃ z : Int32, z = own_bf bf4 x5 := ⟨_, rfl⟩
  refine rmB l Z a0 hw a1 b1 _ h37 n0 _ 5 bf4 bf5 (0 : Int32) (8 : Int32) (5 : Int32) (10 : Int32) x5 _ (AV1.ext (o_kext k38)) (by decide) (by decide) rfl e_bf5.symm (by decide) (Or.inr ⟨_, rfl⟩) p e s m below meth c T37 H37 ?_
  refine rmC l Z a0 hw a1 b1 b6 al _ h37 n0 bf5 (8 : Int32) (3 : Int32) (5 : Int32) (10 : Int32) (8 : Int32) (9 : Int32) cs [(own_en bf0 3), (own_en bf1 6), (own_en bf1 1), (own_en bf2 4), (own_en bf3 7), (own_en bf3 2), (own_en bf4 5), (own_en bf4 0), (.int 0), (.int 0), (.int 0), (.int 0), (.int 0), (.int 0), (.int 0), (.int 0)] [(own_en bf0 3), (own_en bf1 6), (own_en bf1 1), (own_en bf2 4), (own_en bf3 7), (own_en bf3 2), (own_en bf4 5), (own_en bf4 0), (own_en bf5 3), (.int 0), (.int 0), (.int 0), (.int 0), (.int 0), (.int 0), (.int 0)] 8 _ (by decide) (by decide) f39 z1 FV37 FC37 FN37 A37 z6 ne6 (by decide) (Nat.le_of_ble_eq_true rfl) (Nat.le_of_ble_eq_true rfl) (by decide) rfl (S_a.ext (o_kext k38)) (AL.ext (o_kext k38)) (S_c.ext (o_kext k38)) hcs p e s m below meth c T37 H37 ?_
  intro T41 h41 H41 K41 FV41 FC41 FN41 A41
  have k42 := k38.trans K41 (allS (Or.inr y1) (allS (Or.inr y6) all0))
  have f43 := f39.keep K41
  have f44 := f40.keep K41
  refine rmE l Z a0 hw a1 b1 _ h41 n0 bf5 (3 : Int32) (5 : Int32) (6 : Int32) (10 : Int32) _ (by decide) (by decide) p e s m below meth c T41 H41 ?_
  obtain ⟨bf6, e_bf6⟩ : ∃ z : Int32, z = own_bf bf5 x6 := ⟨_, rfl⟩
  refine rmB l Z a0 hw a1 b1 _ h41 n0 _ 6 bf5 bf6 (3 : Int32) (11 : Int32) (6 : Int32) (10 : Int32) x6 _ (AV1.ext (o_kext k42)) (by decide) (by decide) rfl e_bf6.symm (by decide) (Or.inr ⟨_, rfl⟩) p e s m below meth c T41 H41 ?_
  refine rmC l Z a0 hw a1 b1 b6 al _ h41 n0 bf6 (11 : Int32) (6 : Int32) (6 : Int32) (10 : Int32) (9 : Int32) (10 : Int32) cs [(own_en bf0 3), (own_en bf1 6), (own_en bf1 1), (own_en bf2 4), (own_en bf3 7), (own_en bf3 2), (own_en bf4 5), (own_en bf4 0), (own_en bf5 3), (.int 0), (.int 0), (.int 0), (.int 0), (.int 0), (.int 0), (.int 0)] [(own_en bf0 3), (own_en bf1 6), (own_en bf1 1), (own_en bf2 4), (own_en bf3 7), (own_en bf3 2), (own_en bf4 5), (own_en bf4 0), (own_en bf5 3), (own_en bf6 6), (.int 0), (.int 0), (.int 0), (.int 0), (.int 0), (.int 0)] 9 _ (by decide) (by decide) f43 z1 FV41 FC41 FN41 A41 z6 ne6 (by decide) (Nat.le_of_ble_eq_true rfl) (Nat.le_of_ble_eq_true rfl) (by decide) rfl (S_a.ext (o_kext k42)) (AL.ext (o_kext k42)) (S_c.ext (o_kext k42)) hcs p e s m below meth c T41 H41 ?_
  intro T45 h45 H45 K45 FV45 FC45 FN45 A45
  have k46 := k42.trans K45 (allS (Or.inr y1) (allS (Or.inr y6) all0))
  have f47 := f43.keep K45
  have f48 := f44.keep K45
  refine rmC l Z a0 hw a1 b1 b6 al _ h45 n0 bf6 (6 : Int32) (1 : Int32) (6 : Int32) (10 : Int32) (10 : Int32) (11 : Int32) cs [(own_en bf0 3), (own_en bf1 6), (own_en bf1 1), (own_en bf2 4), (own_en bf3 7), (own_en bf3 2), (own_en bf4 5), (own_en bf4 0), (own_en bf5 3), (own_en bf6 6), (.int 0), (.int 0), (.int 0), (.int 0), (.int 0), (.int 0)] [(own_en bf0 3), (own_en bf1 6), (own_en bf1 1), (own_en bf2 4), (own_en bf3 7), (own_en bf3 2), (own_en bf4 5), (own_en bf4 0), (own_en bf5 3), (own_en bf6 6), (own_en bf6 1), (.int 0), (.int 0), (.int 0), (.int 0), (.int 0)] 10 _ (by decide) (by decide) f47 z1 FV45 FC45 FN45 A45 z6 ne6 (by decide) (Nat.le_of_ble_eq_true rfl) (Nat.le_of_ble_eq_true rfl) (by decide) rfl (S_a.ext (o_kext k46)) (AL.ext (o_kext k46)) (S_c.ext (o_kext k46)) hcs p e s m below meth c T45 H45 ?_
  intro T49 h49 H49 K49 FV49 FC49 FN49 A49
  have k50 := k46.trans K49 (allS (Or.inr y1) (allS (Or.inr y6) all0))
  have f51 := f47.keep K49
  have f52 := f48.keep K49
  refine rmE l Z a0 hw a1 b1 _ h49 n0 bf6 (1 : Int32) (6 : Int32) (7 : Int32) (10 : Int32) _ (by decide) (by decide) p e s m below meth c T49 H49 ?_
  obtain ⟨bf7, e_bf7⟩ : ∃ z : Int32, z = own_bf bf6 x7 := ⟨_, rfl⟩
  refine rmB l Z a0 hw a1 b1 _ h49 n0 _ 7 bf6 bf7 (1 : Int32) (9 : Int32) (7 : Int32) (10 : Int32) x7 _ (AV1.ext (o_kext k50)) (by decide) (by decide) rfl e_bf7.symm (by decide) (Or.inr ⟨_, rfl⟩) p e s m below meth c T49 H49 ?_
  refine rmC l Z a0 hw a1 b1 b6 al _ h49 n0 bf7 (9 : Int32) (4 : Int32) (7 : Int32) (10 : Int32) (11 : Int32) (12 : Int32) cs [(own_en bf0 3), (own_en bf1 6), (own_en bf1 1), (own_en bf2 4), (own_en bf3 7), (own_en bf3 2), (own_en bf4 5), (own_en bf4 0), (own_en bf5 3), (own_en bf6 6), (own_en bf6 1), (.int 0), (.int 0), (.int 0), (.int 0), (.int 0)] [(own_en bf0 3), (own_en bf1 6), (own_en bf1 1), (own_en bf2 4), (own_en bf3 7), (own_en bf3 2), (own_en bf4 5), (own_en bf4 0), (own_en bf5 3), (own_en bf6 6), (own_en bf6 1), (own_en bf7 4), (.int 0), (.int 0), (.int 0), (.int 0)] 11 _ (by decide) (by decide) f51 z1 FV49 FC49 FN49 A49 z6 ne6 (by decide) (Nat.le_of_ble_eq_true rfl) (Nat.le_of_ble_eq_true rfl) (by decide) rfl (S_a.ext (o_kext k50)) (AL.ext (o_kext k50)) (S_c.ext (o_kext k50)) hcs p e s m below meth c T49 H49 ?_
  intro T53 h53 H53 K53 FV53 FC53 FN53 A53
  have k54 := k50.trans K53 (allS (Or.inr y1) (allS (Or.inr y6) all0))
  have f55 := f51.keep K53
  have f56 := f52.keep K53
  refine rmE l Z a0 hw a1 b1 _ h53 n0 bf7 (4 : Int32) (7 : Int32) (8 : Int32) (10 : Int32) _ (by decide) (by decide) p e s m below meth c T53 H53 ?_
  obtain ⟨bf8, e_bf8⟩ : ∃ z : Int32, z = own_bf bf7 x8 := ⟨_, rfl⟩
  refine rmB l Z a0 hw a1 b1 _ h53 n0 _ 8 bf7 bf8 (4 : Int32) (12 : Int32) (8 : Int32) (10 : Int32) x8 _ (AV1.ext (o_kext k54)) (by decide) (by decide) rfl e_bf8.symm (by decide) (Or.inr ⟨_, rfl⟩) p e s m below meth c T53 H53 ?_
  refine rmC l Z a0 hw a1 b1 b6 al _ h53 n0 bf8 (12 : Int32) (7 : Int32) (8 : Int32) (10 : Int32) (12 : Int32) (13 : Int32) cs [(own_en bf0 3), (own_en bf1 6), (own_en bf1 1), (own_en bf2 4), (own_en bf3 7), (own_en bf3 2), (own_en bf4 5), (own_en bf4 0), (own_en bf5 3), (own_en bf6 6), (own_en bf6 1), (own_en bf7 4), (.int 0), (.int 0), (.int 0), (.int 0)] [(own_en bf0 3), (own_en bf1 6), (own_en bf1 1), (own_en bf2 4), (own_en bf3 7), (own_en bf3 2), (own_en bf4 5), (own_en bf4 0), (own_en bf5 3), (own_en bf6 6), (own_en bf6 1), (own_en bf7 4), (own_en bf8 7), (.int 0), (.int 0), (.int 0)] 12 _ (by decide) (by decide) f55 z1 FV53 FC53 FN53 A53 z6 ne6 (by decide) (Nat.le_of_ble_eq_true rfl) (Nat.le_of_ble_eq_true rfl) (by decide) rfl (S_a.ext (o_kext k54)) (AL.ext (o_kext k54)) (S_c.ext (o_kext k54)) hcs p e s m below meth c T53 H53 ?_
  intro T57 h57 H57 K57 FV57 FC57 FN57 A57
  have k58 := k54.trans K57 (allS (Or.inr y1) (allS (Or.inr y6) all0))
  have f59 := f55.keep K57
  have f60 := f56.keep K57
  refine rmC l Z a0 hw a1 b1 b6 al _ h57 n0 bf8 (7 : Int32) (2 : Int32) (8 : Int32) (10 : Int32) (13 : Int32) (14 : Int32) cs [(own_en bf0 3), (own_en bf1 6), (own_en bf1 1), (own_en bf2 4), (own_en bf3 7), (own_en bf3 2), (own_en bf4 5), (own_en bf4 0), (own_en bf5 3), (own_en bf6 6), (own_en bf6 1), (own_en bf7 4), (own_en bf8 7), (.int 0), (.int 0), (.int 0)] [(own_en bf0 3), (own_en bf1 6), (own_en bf1 1), (own_en bf2 4), (own_en bf3 7), (own_en bf3 2), (own_en bf4 5), (own_en bf4 0), (own_en bf5 3), (own_en bf6 6), (own_en bf6 1), (own_en bf7 4), (own_en bf8 7), (own_en bf8 2), (.int 0), (.int 0)] 13 _ (by decide) (by decide) f59 z1 FV57 FC57 FN57 A57 z6 ne6 (by decide) (Nat.le_of_ble_eq_true rfl) (Nat.le_of_ble_eq_true rfl) (by decide) rfl (S_a.ext (o_kext k58)) (AL.ext (o_kext k58)) (S_c.ext (o_kext k58)) hcs p e s m below meth c T57 H57 ?_
  intro T61 h61 H61 K61 FV61 FC61 FN61 A61
  have k62 := k58.trans K61 (allS (Or.inr y1) (allS (Or.inr y6) all0))
  have f63 := f59.keep K61
  have f64 := f60.keep K61
  refine rmE l Z a0 hw a1 b1 _ h61 n0 bf8 (2 : Int32) (8 : Int32) (9 : Int32) (10 : Int32) _ (by decide) (by decide) p e s m below meth c T61 H61 ?_
  obtain ⟨bf9, e_bf9⟩ : ∃ z : Int32, z = own_bf bf8 x9 := ⟨_, rfl⟩
  refine rmB l Z a0 hw a1 b1 _ h61 n0 _ 9 bf8 bf9 (2 : Int32) (10 : Int32) (9 : Int32) (10 : Int32) x9 _ (AV1.ext (o_kext k62)) (by decide) (by decide) rfl e_bf9.symm (by decide) (Or.inr ⟨_, rfl⟩) p e s m below meth c T61 H61 ?_
  refine rmC l Z a0 hw a1 b1 b6 al _ h61 n0 bf9 (10 : Int32) (5 : Int32) (9 : Int32) (10 : Int32) (14 : Int32) (15 : Int32) cs [(own_en bf0 3), (own_en bf1 6), (own_en bf1 1), (own_en bf2 4), (own_en bf3 7), (own_en bf3 2), (own_en bf4 5), (own_en bf4 0), (own_en bf5 3), (own_en bf6 6), (own_en bf6 1), (own_en bf7 4), (own_en bf8 7), (own_en bf8 2), (.int 0), (.int 0)] [(own_en bf0 3), (own_en bf1 6), (own_en bf1 1), (own_en bf2 4), (own_en bf3 7), (own_en bf3 2), (own_en bf4 5), (own_en bf4 0), (own_en bf5 3), (own_en bf6 6), (own_en bf6 1), (own_en bf7 4), (own_en bf8 7), (own_en bf8 2), (own_en bf9 5), (.int 0)] 14 _ (by decide) (by decide) f63 z1 FV61 FC61 FN61 A61 z6 ne6 (by decide) (Nat.le_of_ble_eq_true rfl) (Nat.le_of_ble_eq_true rfl) (by decide) rfl (S_a.ext (o_kext k62)) (AL.ext (o_kext k62)) (S_c.ext (o_kext k62)) hcs p e s m below meth c T61 H61 ?_
  intro T65 h65 H65 K65 FV65 FC65 FN65 A65
  have k66 := k62.trans K65 (allS (Or.inr y1) (allS (Or.inr y6) all0))
  have f67 := f63.keep K65
  have f68 := f64.keep K65
  refine rmC l Z a0 hw a1 b1 b6 al _ h65 n0 bf9 (5 : Int32) (0 : Int32) (9 : Int32) (10 : Int32) (15 : Int32) (16 : Int32) cs [(own_en bf0 3), (own_en bf1 6), (own_en bf1 1), (own_en bf2 4), (own_en bf3 7), (own_en bf3 2), (own_en bf4 5), (own_en bf4 0), (own_en bf5 3), (own_en bf6 6), (own_en bf6 1), (own_en bf7 4), (own_en bf8 7), (own_en bf8 2), (own_en bf9 5), (.int 0)] [(own_en bf0 3), (own_en bf1 6), (own_en bf1 1), (own_en bf2 4), (own_en bf3 7), (own_en bf3 2), (own_en bf4 5), (own_en bf4 0), (own_en bf5 3), (own_en bf6 6), (own_en bf6 1), (own_en bf7 4), (own_en bf8 7), (own_en bf8 2), (own_en bf9 5), (own_en bf9 0)] 15 _ (by decide) (by decide) f67 z1 FV65 FC65 FN65 A65 z6 ne6 (by decide) (Nat.le_of_ble_eq_true rfl) (Nat.le_of_ble_eq_true rfl) (by decide) rfl (S_a.ext (o_kext k66)) (AL.ext (o_kext k66)) (S_c.ext (o_kext k66)) hcs p e s m below meth c T65 H65 ?_
  intro T69 h69 H69 K69 FV69 FC69 FN69 A69
  have k70 := k66.trans K69 (allS (Or.inr y1) (allS (Or.inr y6) all0))
  have f71 := f67.keep K69
  have f72 := f68.keep K69
  refine rmE l Z a0 hw a1 b1 _ h69 n0 bf9 (0 : Int32) (9 : Int32) (10 : Int32) (10 : Int32) _ (by decide) (by decide) p e s m below meth c T69 H69 ?_
  refine o_iload H69 rfl d1_32 rfl ?_
  refine o_iload H69 rfl d1_34 rfl ?_
  refine o_icmp_t H69 d1_36 (by decide) (pt := 93) (by decide) (by decide) ?_
  refine o_iloadN H69 rfl d1_93 rfl ?_
  refine o_if_t H69 d1_94 (by decide) (pt := 114) (by decide) (by decide) ?_
  have OF : oFit .byte [(own_en bf0 3), (own_en bf1 6), (own_en bf1 1), (own_en bf2 4), (own_en bf3 7), (own_en bf3 2), (own_en bf4 5), (own_en bf4 0), (own_en bf5 3), (own_en bf6 6), (own_en bf6 1), (own_en bf7 4), (own_en bf8 7), (own_en bf8 2), (own_en bf9 5), (own_en bf9 0)] := by
    intro v hv
    simp only [List.mem_cons, List.not_mem_nil, or_false] at hv
    rcases hv with rfl | rfl | rfl | rfl | rfl | rfl | rfl | rfl | rfl | rfl | rfl | rfl | rfl | rfl | rfl | rfl <;> exact fits_nar_byte _
  refine o_aloadN H69 rfl rfl d1_114 rfl ?_
  refine o_virtual H69 [] [] (rm5 l Z a0 hw b1 b6 [(own_en bf0 3), (own_en bf1 6), (own_en bf1 1), (own_en bf2 4), (own_en bf3 7), (own_en bf3 2), (own_en bf4 5), (own_en bf4 0), (own_en bf5 3), (own_en bf6 6), (own_en bf6 1), (own_en bf7 4), (own_en bf8 7), (own_en bf8 2), (own_en bf9 5), (own_en bf9 0)] (16 : Int32) cs h69 n0 H69.le f71 FV69 FC69 FN69 A69 f72 OF rfl (Nat.le_of_ble_eq_true rfl) (S_c.ext (o_kext k70)) hcs) f71 (w27 hw) (w28 hw) (o_nf (w30 hw)) (w30 hw) (w29 hw) (w8 hw) (w31 hw) (by decide) (lenOf pd5 rfl) rfl rfl (by decide) (Nat.le_of_ble_eq_true rfl) (by decide) (by decide) d1_115 rfl ?_
  intro T73 v73 h73 H73 q73
  obtain ⟨r73, b73, rfl, K73, X73, FC73, FV73, A73⟩ := q73
  have k74 := k70.trans K73 all0
  show oG p e below s n0 _ _ _ (T73.setTop (mkF m 118 #[.val (.ref a1), .val (.ref b1), .val (.int bf9), .val (.int (0 : Int32)), .val (.ref a1), .val (.int (10 : Int32)), .val (.int (10 : Int32)), .val (.int x9)] [(.ref r73)]))
  have fin : oA .byte Z h73 b73 (own_enc_10 x0 x1 x2 x3 x4 x5 x6 x7 x8 x9) := by
    have q := A73
    subst e_bf9
    subst e_bf8
    subst e_bf7
    subst e_bf6
    subst e_bf5
    subst e_bf4
    subst e_bf3
    subst e_bf2
    subst e_bf1
    subst e_bf0
    exact q
  exact o_areturn H73 rfl rfl rfl rfl d1_118 (by decide) (by decide) ⟨_, _, rfl, k74, X73, FC73, FV73, fin⟩
theorem own_atx {Z : State} {h : Heap} {a : Addr} {vs : List Value} {ty : FieldType} (A : oA ty Z h a vs) {p nl : Int32} {j : Nat} (hn : vs.length.toInt32 = nl) (hj : p.toInt = (j : Int)) (h : p < nl) : j < vs.length := by
  have q := A.1
  have e : (vs.length.toInt32).toInt = vs.length := o_ofNat q
  rw [n_lt, ← hn, e] at h; omega
theorem rmAt (l : Launch) (Z : State) (a0 : Array Value) (hw : ∀ d ∈ tables_1, d.before a0 Z = true) (a1 a2 : Addr) (p1 p2 : Int32) (vb : Addr) (vs es : List Value) (j : Nat) (cs : Int32) (fm : Value) (h0 : Heap) (n0 : Nat) (Z0 : n0 ≤ h0.size) (E_a1 : Exa Z h0 a1 "java/lang/String") (F_value_a1 : Fld Z h0 a1 "java/lang/String" "value" "[B" (.ref vb)) (F_coder_a1 : Fld Z h0 a1 "java/lang/String" "coder" "B" (.int (0 : Int32))) (AV : oA .byte Z h0 vb vs) (AE : oA .char Z h0 a2 es) (hj : p1.toInt = (j : Int)) (hat : p1 < p2 → ∃ x1 x2, vs[j]? = some (.int x1) ∧ es[j]? = some (.int x2) ∧ own_ch x1 = x2) (S_c : Sta Z h0 "java/lang/String" "COMPACT_STRINGS" "Z" (.int cs)) (hcs : ¬ cs = 0) (S_f : Sta Z h0 "jdk/internal/util/Preconditions" "SIOOBE_FORMATTER" "Ljava/util/function/BiFunction;" fm) (hfm : fm.isRef = true) :
    oC l Z n0 (⟨"com/example/encase/encase/codec/Base32EncodePinLaw", "at", "(Ljava/lang/String;[CII)Z"⟩ : MethodName) method_6_code 4 (some .boolean) ({ frames := 4, cells := 0, slots := 0, locals := 66 } : Room) 0 0 #[(.ref a1), (.ref a2), (.int p1), (.int p2)] h0 (fun v h => v = some (.int 1) ∧ h0 = h) := by
  by_cases hlt : p1 < p2
  · obtain ⟨x1, x2, hv, he, heq⟩ := hat hlt
    exact rm20 l Z a0 hw a1 a2 p1 p2 vb vs es j x1 x2 cs fm h0 n0 Z0 E_a1 F_value_a1 F_coder_a1 AV AE hj hv he hlt heq S_c hcs S_f hfm
  · exact rm20_N l Z a0 hw a1 a2 p1 p2 h0 n0 Z0 hlt
theorem own_r11 (a : Int32) : 0 ≤ ((a &&& 2147483647) % 11).toInt ∧ ((a &&& 2147483647) % 11).toInt < 11 := by
  have h := (n_and a 2147483647 (by decide)).1
  rw [n_rem _ 11 11 (by decide) rfl h]; omega
theorem pn0 : plainFor x = true := plainFor_of_name (by first | (simp [plainName, overriddenIn]; done) | decide +kernel)
set_option maxRecDepth 65536 in
set_option maxHeartbeats 40000000 in
theorem rmT (l : Launch) (Z : State) (a0 : Array Value) (hw : ∀ d ∈ tables_1, d.before a0 Z = true) (p1 : Int32) (p2 p3 : Int64) (kl l1 l2 : Int32) (bb a1 vb : Addr) (vs : List Value) (cs : Int32) (fm : Value) (h0 : Heap) (n0 : Nat) (E_a1 : Exa Z h0 a1 "java/lang/String") (F_value_a1 : Fld Z h0 a1 "java/lang/String" "value" "[B" (.ref vb)) (F_coder_a1 : Fld Z h0 a1 "java/lang/String" "coder" "B" (.int (0 : Int32))) (AV : oA .byte Z h0 vb vs) (S_c : Sta Z h0 "java/lang/String" "COMPACT_STRINGS" "Z" (.int cs)) (hcs : ¬ cs = 0) (S_f : Sta Z h0 "jdk/internal/util/Preconditions" "SIOOBE_FORMATTER" "Ljava/util/function/BiFunction;" fm) (hfm : fm.isRef = true) (hl1 : own_mn kl 5 = l1) (hl2 : own_mx 0 (kl - 5) = l2) (hlen : vs.length.toInt32 = (8 * kl + 4) / 5) (hall : ∀ j, j < vs.length → ∃ x1 x2, vs[j]? = some (.int x1) ∧ (own_es (own_keep p2 l1) (own_keep p3 l2))[j]? = some (.int x2) ∧ own_ch x1 = x2) (p : Program) (e : Env) (s : State) (m : MethodId) (below : List Frame) (meth : Method) (c : Code) (T : State) (H : oH p l e room_1 s m #[.int p1, .long p2, .long p3] below meth c code maxLocals x ret Z n0 T h0 7 70) :
    oG p e below s n0 24 256 (fun v h => v = some (.int 1)) (T.setTop (mkF m 181 #[.val (.int p1), .val (.long p2), .second, .val (.long p3), .second, .val (.int kl), .val (.ref bb), .unset, .unset, .unset, .unset, .unset, .unset, .unset, .unset, .unset] [(.ref a1)])) := by
  refine o_astore H (L' := #[.val (.int p1), .val (.long p2), .second, .val (.long p3), .second, .val (.int kl), .val (.ref bb), .val (.ref a1), .unset, .unset, .unset, .unset, .unset, .unset, .unset, .unset]) rfl rfl at_181 rfl ?_
  refine o_iload H rfl at_183 rfl ?_
  refine o_iconst H (5 : Int32) rfl at_185 rfl ?_
  refine o_static H [(.int kl), (.int (5 : Int32))] [] ((rm13 l Z a0 hw kl (5 : Int32) h0 n0 H.le).mono (fun v h q => (⟨q.1.trans (by rw [hl1]), q.2⟩ : v = some (.int l1) ∧ h0 = h))) (w80 hw) (w81 hw) (w82 hw) (w83 hw) (by decide) (lenOf pd13 rfl) rfl rfl (by decide) (Nat.le_of_ble_eq_true rfl) (by decide) (by decide) at_186 rfl ?_
  intro T1 v1 h1 H1 q1
  obtain ⟨rfl, rfl⟩ := q1
  show oG p e below s n0 _ _ _ (T1.setTop (mkF m 189 #[.val (.int p1), .val (.long p2), .second, .val (.long p3), .second, .val (.int kl), .val (.ref bb), .val (.ref a1), .unset, .unset, .unset, .unset, .unset, .unset, .unset, .unset] [(.int l1)]))
  refine o_istore H1 (L' := #[.val (.int p1), .val (.long p2), .second, .val (.long p3), .second, .val (.int kl), .val (.ref bb), .val (.ref a1), .val (.int l1), .unset, .unset, .unset, .unset, .unset, .unset, .unset]) rfl at_189 rfl ?_
  refine o_iconst H1 (0 : Int32) rfl at_191 rfl ?_
  refine o_iload H1 rfl at_192 rfl ?_
  refine o_iconst H1 (5 : Int32) rfl at_194 rfl ?_
  refine o_isub H1 at_195 rfl ?_
  refine o_static H1 [(.int (0 : Int32)), (.int (kl - (5 : Int32)))] [] ((rm14 l Z a0 hw (0 : Int32) (kl - (5 : Int32)) h0 n0 H1.le).mono (fun v h q => (⟨q.1.trans (by rw [hl2]), q.2⟩ : v = some (.int l2) ∧ h0 = h))) (w84 hw) (w85 hw) (w82 hw) (w86 hw) (by decide) (lenOf pd14 rfl) rfl rfl (by decide) (Nat.le_of_ble_eq_true rfl) (by decide) (by decide) at_196 rfl ?_
  intro T2 v2 h2 H2 q2
  obtain ⟨rfl, rfl⟩ := q2
  show oG p e below s n0 _ _ _ (T2.setTop (mkF m 199 #[.val (.int p1), .val (.long p2), .second, .val (.long p3), .second, .val (.int kl), .val (.ref bb), .val (.ref a1), .val (.int l1), .unset, .unset, .unset, .unset, .unset, .unset, .unset] [(.int l2)]))
  refine o_istore H2 (L' := #[.val (.int p1), .val (.long p2), .second, .val (.long p3), .second, .val (.int kl), .val (.ref bb), .val (.ref a1), .val (.int l1), .val (.int l2), .unset, .unset, .unset, .unset, .unset, .unset]) rfl at_199 rfl ?_
  refine o_lloadN H2 rfl at_201 rfl ?_
  refine o_iload H2 rfl at_202 rfl ?_
  refine o_static H2 [(.long p2), (.int l1)] [] (rm15 l Z a0 hw p2 l1 h0 n0 H2.le) (w87 hw) (w88 hw) (w89 hw) (w90 hw) (by decide) (lenOf pd15 rfl) rfl rfl (by decide) (Nat.le_of_ble_eq_true rfl) (by decide) (by decide) at_204 rfl ?_
  intro T3 v3 h3 H3 q3
  obtain ⟨rfl, rfl⟩ := q3
  show oG p e below s n0 _ _ _ (T3.setTop (mkF m 207 #[.val (.int p1), .val (.long p2), .second, .val (.long p3), .second, .val (.int kl), .val (.ref bb), .val (.ref a1), .val (.int l1), .val (.int l2), .unset, .unset, .unset, .unset, .unset, .unset] [(.long (own_keep p2 l1))]))
  refine o_lstore H3 (L' := #[.val (.int p1), .val (.long p2), .second, .val (.long p3), .second, .val (.int kl), .val (.ref bb), .val (.ref a1), .val (.int l1), .val (.int l2), .val (.long (own_keep p2 l1)), .second, .unset, .unset, .unset, .unset]) rfl at_207 rfl ?_
  refine o_lloadN H3 rfl at_209 rfl ?_
  refine o_iload H3 rfl at_210 rfl ?_
  refine o_static H3 [(.long p3), (.int l2)] [] (rm15 l Z a0 hw p3 l2 h0 n0 H3.le) (w87 hw) (w88 hw) (w89 hw) (w90 hw) (by decide) (lenOf pd15 rfl) rfl rfl (by decide) (Nat.le_of_ble_eq_true rfl) (by decide) (by decide) at_212 rfl ?_
  intro T4 v4 h4 H4 q4
  obtain ⟨rfl, rfl⟩ := q4
  show oG p e below s n0 _ _ _ (T4.setTop (mkF m 215 #[.val (.int p1), .val (.long p2), .second, .val (.long p3), .second, .val (.int kl), .val (.ref bb), .val (.ref a1), .val (.int l1), .val (.int l2), .val (.long (own_keep p2 l1)), .second, .unset, .unset, .unset, .unset] [(.long (own_keep p3 l2))]))
  refine o_lstore H4 (L' := #[.val (.int p1), .val (.long p2), .second, .val (.long p3), .second, .val (.int kl), .val (.ref bb), .val (.ref a1), .val (.int l1), .val (.int l2), .val (.long (own_keep p2 l1)), .second, .val (.long (own_keep p3 l2)), .second, .unset, .unset]) rfl at_215 rfl ?_
  obtain ⟨wa, e_wa⟩ : ∃ z : Int64, z = (own_keep p2 l1) := ⟨_, rfl⟩
  rw [← e_wa]
  obtain ⟨wb, e_wb⟩ : ∃ z : Int64, z = (own_keep p3 l2) := ⟨_, rfl⟩
  rw [← e_wb]
  rw [← e_wa, ← e_wb] at hall
  clear e_wa e_wb
  refine o_bipush H4 (16 : Int32) rfl at_217 rfl ?_
  refine o_newarr (aty := .char) H4 16 16 (w93 hw) (by decide) (by decide) (by decide) at_219 rfl (by decide) (by decide) ?_
  intro T5 h5 b5 g5 H5 E5 A5
  have ne5_a1 : a1 ≠ b5 := by rw [g5]; exact Nat.ne_of_lt (E_a1).lt
  have ne5_vb : vb ≠ b5 := by rw [g5]; exact Nat.ne_of_lt (AV).lt
  have z5 : n0 ≤ b5 := by rw [g5]; exact H4.le
  have y5 : h0.size ≤ b5 := by rw [g5]; exact (Keep.refl h0 []).1
  have k6 := (Keep.refl h0 []).ext E5
  have f7 := E_a1.ext E5
  have f8 := F_value_a1.ext E5
  have f9 := F_coder_a1.ext E5
  have f10 := AV.ext E5
  have f11 : oA .char Z h5 b5 [(.int 0), (.int 0), (.int 0), (.int 0), (.int 0), (.int 0), (.int 0), (.int 0), (.int 0), (.int 0), (.int 0), (.int 0), (.int 0), (.int 0), (.int 0), (.int 0)] := A5
  refine o_astore H5 (L' := #[.val (.int p1), .val (.long p2), .second, .val (.long p3), .second, .val (.int kl), .val (.ref bb), .val (.ref a1), .val (.int l1), .val (.int l2), .val (.long wa), .second, .val (.long wb), .second, .val (.ref b5), .unset]) rfl rfl at_221 rfl ?_
  refine o_aload H5 rfl rfl at_223 rfl ?_
  refine o_iconst H5 (0 : Int32) rfl at_225 rfl ?_
  refine o_lload H5 rfl at_226 rfl ?_
  refine o_iconst H5 (0 : Int32) rfl at_228 rfl ?_
  refine o_static H5 [(.long wa), (.int (0 : Int32))] [(.int (0 : Int32)), (.ref b5)] (rm16 l Z a0 hw wa (0 : Int32) h5 n0 H5.le) (w94 hw) (w95 hw) (w89 hw) (w96 hw) (by decide) (lenOf pd16 rfl) rfl rfl (by decide) (Nat.le_of_ble_eq_true rfl) (by decide) (by decide) at_229 rfl ?_
  intro T12 v12 h12 H12 q12
  obtain ⟨rfl, rfl⟩ := q12
  show oG p e below s n0 _ _ _ (T12.setTop (mkF m 232 #[.val (.int p1), .val (.long p2), .second, .val (.long p3), .second, .val (.int kl), .val (.ref bb), .val (.ref a1), .val (.int l1), .val (.int l2), .val (.long wa), .second, .val (.long wb), .second, .val (.ref b5), .unset] [(.int (own_g wa (0 : Int32))), (.int (0 : Int32)), (.ref b5)]))
  refine o_static H12 [(.int (own_g wa (0 : Int32)))] [(.int (0 : Int32)), (.ref b5)] (rm17 l Z a0 hw (own_g wa (0 : Int32)) h5 n0 H12.le) (w98 hw) (w99 hw) (w89 hw) (w100 hw) (by decide) (lenOf pd17 rfl) rfl rfl (by decide) (Nat.le_of_ble_eq_true rfl) (by decide) (by decide) at_232 rfl ?_
  intro T13 v13 h13 H13 q13
  obtain ⟨rfl, rfl⟩ := q13
  show oG p e below s n0 _ _ _ (T13.setTop (mkF m 235 #[.val (.int p1), .val (.long p2), .second, .val (.long p3), .second, .val (.int kl), .val (.ref bb), .val (.ref a1), .val (.int l1), .val (.int l2), .val (.long wa), .second, .val (.long wb), .second, .val (.ref b5), .unset] [(.int (nar .char (own_sym (own_g wa (0 : Int32))))), (.int (0 : Int32)), (.ref b5)]))
  refine o_castore H13 0 f11 (by decide) (Nat.le_of_ble_eq_true rfl) z5 at_235 rfl ?_
  intro T14 h14 H14 W14 A14
  have k15 := k6.wr W14 (Or.inr y5)
  have f16 := f7.wr W14
  have f17 := f8.other W14 (Or.inl ne5_a1)
  have f18 := f9.other W14 (Or.inl ne5_a1)
  have f19 := f10.other W14 ne5_vb
  have f20 : oA .char Z h14 b5 [(.int (nar .char (nar .char (own_sym (own_g wa (0 : Int32)))))), (.int 0), (.int 0), (.int 0), (.int 0), (.int 0), (.int 0), (.int 0), (.int 0), (.int 0), (.int 0), (.int 0), (.int 0), (.int 0), (.int 0), (.int 0)] := A14
  refine o_aload H14 rfl rfl at_236 rfl ?_
  refine o_iconst H14 (1 : Int32) rfl at_238 rfl ?_
  refine o_lload H14 rfl at_239 rfl ?_
  refine o_iconst H14 (1 : Int32) rfl at_241 rfl ?_
  refine o_static H14 [(.long wa), (.int (1 : Int32))] [(.int (1 : Int32)), (.ref b5)] (rm16 l Z a0 hw wa (1 : Int32) h14 n0 H14.le) (w94 hw) (w95 hw) (w89 hw) (w96 hw) (by decide) (lenOf pd16 rfl) rfl rfl (by decide) (Nat.le_of_ble_eq_true rfl) (by decide) (by decide) at_242 rfl ?_
  intro T21 v21 h21 H21 q21
  obtain ⟨rfl, rfl⟩ := q21
  show oG p e below s n0 _ _ _ (T21.setTop (mkF m 245 #[.val (.int p1), .val (.long p2), .second, .val (.long p3), .second, .val (.int kl), .val (.ref bb), .val (.ref a1), .val (.int l1), .val (.int l2), .val (.long wa), .second, .val (.long wb), .second, .val (.ref b5), .unset] [(.int (own_g wa (1 : Int32))), (.int (1 : Int32)), (.ref b5)]))
  refine o_static H21 [(.int (own_g wa (1 : Int32)))] [(.int (1 : Int32)), (.ref b5)] (rm17 l Z a0 hw (own_g wa (1 : Int32)) h14 n0 H21.le) (w98 hw) (w99 hw) (w89 hw) (w100 hw) (by decide) (lenOf pd17 rfl) rfl rfl (by decide) (Nat.le_of_ble_eq_true rfl) (by decide) (by decide) at_245 rfl ?_
  intro T22 v22 h22 H22 q22
  obtain ⟨rfl, rfl⟩ := q22
  show oG p e below s n0 _ _ _ (T22.setTop (mkF m 248 #[.val (.int p1), .val (.long p2), .second, .val (.long p3), .second, .val (.int kl), .val (.ref bb), .val (.ref a1), .val (.int l1), .val (.int l2), .val (.long wa), .second, .val (.long wb), .second, .val (.ref b5), .unset] [(.int (nar .char (own_sym (own_g wa (1 : Int32))))), (.int (1 : Int32)), (.ref b5)]))
  refine o_castore H22 1 f20 (by decide) (Nat.le_of_ble_eq_true rfl) z5 at_248 rfl ?_
  intro T23 h23 H23 W23 A23
  have k24 := k15.wr W23 (Or.inr y5)
  have f25 := f16.wr W23
  have f26 := f17.other W23 (Or.inl ne5_a1)
  have f27 := f18.other W23 (Or.inl ne5_a1)
  have f28 := f19.other W23 ne5_vb
  have f29 : oA .char Z h23 b5 [(.int (nar .char (nar .char (own_sym (own_g wa (0 : Int32)))))), (.int (nar .char (nar .char (own_sym (own_g wa (1 : Int32)))))), (.int 0), (.int 0), (.int 0), (.int 0), (.int 0), (.int 0), (.int 0), (.int 0), (.int 0), (.int 0), (.int 0), (.int 0), (.int 0), (.int 0)] := A23
  refine o_aload H23 rfl rfl at_249 rfl ?_
  refine o_iconst H23 (2 : Int32) rfl at_251 rfl ?_
  refine o_lload H23 rfl at_252 rfl ?_
  refine o_iconst H23 (2 : Int32) rfl at_254 rfl ?_
  refine o_static H23 [(.long wa), (.int (2 : Int32))] [(.int (2 : Int32)), (.ref b5)] (rm16 l Z a0 hw wa (2 : Int32) h23 n0 H23.le) (w94 hw) (w95 hw) (w89 hw) (w96 hw) (by decide) (lenOf pd16 rfl) rfl rfl (by decide) (Nat.le_of_ble_eq_true rfl) (by decide) (by decide) at_255 rfl ?_
  intro T30 v30 h30 H30 q30
  obtain ⟨rfl, rfl⟩ := q30
  show oG p e below s n0 _ _ _ (T30.setTop (mkF m 258 #[.val (.int p1), .val (.long p2), .second, .val (.long p3), .second, .val (.int kl), .val (.ref bb), .val (.ref a1), .val (.int l1), .val (.int l2), .val (.long wa), .second, .val (.long wb), .second, .val (.ref b5), .unset] [(.int (own_g wa (2 : Int32))), (.int (2 : Int32)), (.ref b5)]))
  refine o_static H30 [(.int (own_g wa (2 : Int32)))] [(.int (2 : Int32)), (.ref b5)] (rm17 l Z a0 hw (own_g wa (2 : Int32)) h23 n0 H30.le) (w98 hw) (w99 hw) (w89 hw) (w100 hw) (by decide) (lenOf pd17 rfl) rfl rfl (by decide) (Nat.le_of_ble_eq_true rfl) (by decide) (by decide) at_258 rfl ?_
  intro T31 v31 h31 H31 q31
  obtain ⟨rfl, rfl⟩ := q31
  show oG p e below s n0 _ _ _ (T31.setTop (mkF m 261 #[.val (.int p1), .val (.long p2), .second, .val (.long p3), .second, .val (.int kl), .val (.ref bb), .val (.ref a1), .val (.int l1), .val (.int l2), .val (.long wa), .second, .val (.long wb), .second, .val (.ref b5), .unset] [(.int (nar .char (own_sym (own_g wa (2 : Int32))))), (.int (2 : Int32)), (.ref b5)]))
  refine o_castore H31 2 f29 (by decide) (Nat.le_of_ble_eq_true rfl) z5 at_261 rfl ?_
  intro T32 h32 H32 W32 A32
  have k33 := k24.wr W32 (Or.inr y5)
  have f34 := f25.wr W32
  have f35 := f26.other W32 (Or.inl ne5_a1)
  have f36 := f27.other W32 (Or.inl ne5_a1)
  have f37 := f28.other W32 ne5_vb
  have f38 : oA .char Z h32 b5 [(.int (nar .char (nar .char (own_sym (own_g wa (0 : Int32)))))), (.int (nar .char (nar .char (own_sym (own_g wa (1 : Int32)))))), (.int (nar .char (nar .char (own_sym (own_g wa (2 : Int32)))))), (.int 0), (.int 0), (.int 0), (.int 0), (.int 0), (.int 0), (.int 0), (.int 0), (.int 0), (.int 0), (.int 0), (.int 0), (.int 0)] := A32
  refine o_aload H32 rfl rfl at_262 rfl ?_
  refine o_iconst H32 (3 : Int32) rfl at_264 rfl ?_
  refine o_lload H32 rfl at_265 rfl ?_
  refine o_iconst H32 (3 : Int32) rfl at_267 rfl ?_
  refine o_static H32 [(.long wa), (.int (3 : Int32))] [(.int (3 : Int32)), (.ref b5)] (rm16 l Z a0 hw wa (3 : Int32) h32 n0 H32.le) (w94 hw) (w95 hw) (w89 hw) (w96 hw) (by decide) (lenOf pd16 rfl) rfl rfl (by decide) (Nat.le_of_ble_eq_true rfl) (by decide) (by decide) at_268 rfl ?_
  intro T39 v39 h39 H39 q39
  obtain ⟨rfl, rfl⟩ := q39
  show oG p e below s n0 _ _ _ (T39.setTop (mkF m 271 #[.val (.int p1), .val (.long p2), .second, .val (.long p3), .second, .val (.int kl), .val (.ref bb), .val (.ref a1), .val (.int l1), .val (.int l2), .val (.long wa), .second, .val (.long wb), .second, .val (.ref b5), .unset] [(.int (own_g wa (3 : Int32))), (.int (3 : Int32)), (.ref b5)]))
  refine o_static H39 [(.int (own_g wa (3 : Int32)))] [(.int (3 : Int32)), (.ref b5)] (rm17 l Z a0 hw (own_g wa (3 : Int32)) h32 n0 H39.le) (w98 hw) (w99 hw) (w89 hw) (w100 hw) (by decide) (lenOf pd17 rfl) rfl rfl (by decide) (Nat.le_of_ble_eq_true rfl) (by decide) (by decide) at_271 rfl ?_
  intro T40 v40 h40 H40 q40
  obtain ⟨rfl, rfl⟩ := q40
  show oG p e below s n0 _ _ _ (T40.setTop (mkF m 274 #[.val (.int p1), .val (.long p2), .second, .val (.long p3), .second, .val (.int kl), .val (.ref bb), .val (.ref a1), .val (.int l1), .val (.int l2), .val (.long wa), .second, .val (.long wb), .second, .val (.ref b5), .unset] [(.int (nar .char (own_sym (own_g wa (3 : Int32))))), (.int (3 : Int32)), (.ref b5)]))
  refine o_castore H40 3 f38 (by decide) (Nat.le_of_ble_eq_true rfl) z5 at_274 rfl ?_
  intro T41 h41 H41 W41 A41
  have k42 := k33.wr W41 (Or.inr y5)
  have f43 := f34.wr W41
  have f44 := f35.other W41 (Or.inl ne5_a1)
  have f45 := f36.other W41 (Or.inl ne5_a1)
  have f46 := f37.other W41 ne5_vb
  have f47 : oA .char Z h41 b5 [(.int (nar .char (nar .char (own_sym (own_g wa (0 : Int32)))))), (.int (nar .char (nar .char (own_sym (own_g wa (1 : Int32)))))), (.int (nar .char (nar .char (own_sym (own_g wa (2 : Int32)))))), (.int (nar .char (nar .char (own_sym (own_g wa (3 : Int32)))))), (.int 0), (.int 0), (.int 0), (.int 0), (.int 0), (.int 0), (.int 0), (.int 0), (.int 0), (.int 0), (.int 0), (.int 0)] := A41
  refine o_aload H41 rfl rfl at_275 rfl ?_
  refine o_iconst H41 (4 : Int32) rfl at_277 rfl ?_
  refine o_lload H41 rfl at_278 rfl ?_
  refine o_iconst H41 (4 : Int32) rfl at_280 rfl ?_
  refine o_static H41 [(.long wa), (.int (4 : Int32))] [(.int (4 : Int32)), (.ref b5)] (rm16 l Z a0 hw wa (4 : Int32) h41 n0 H41.le) (w94 hw) (w95 hw) (w89 hw) (w96 hw) (by decide) (lenOf pd16 rfl) rfl rfl (by decide) (Nat.le_of_ble_eq_true rfl) (by decide) (by decide) at_281 rfl ?_
  intro T48 v48 h48 H48 q48
  obtain ⟨rfl, rfl⟩ := q48
  show oG p e below s n0 _ _ _ (T48.setTop (mkF m 284 #[.val (.int p1), .val (.long p2), .second, .val (.long p3), .second, .val (.int kl), .val (.ref bb), .val (.ref a1), .val (.int l1), .val (.int l2), .val (.long wa), .second, .val (.long wb), .second, .val (.ref b5), .unset] [(.int (own_g wa (4 : Int32))), (.int (4 : Int32)), (.ref b5)]))
  refine o_static H48 [(.int (own_g wa (4 : Int32)))] [(.int (4 : Int32)), (.ref b5)] (rm17 l Z a0 hw (own_g wa (4 : Int32)) h41 n0 H48.le) (w98 hw) (w99 hw) (w89 hw) (w100 hw) (by decide) (lenOf pd17 rfl) rfl rfl (by decide) (Nat.le_of_ble_eq_true rfl) (by decide) (by decide) at_284 rfl ?_
  intro T49 v49 h49 H49 q49
  obtain ⟨rfl, rfl⟩ := q49
  show oG p e below s n0 _ _ _ (T49.setTop (mkF m 287 #[.val (.int p1), .val (.long p2), .second, .val (.long p3), .second, .val (.int kl), .val (.ref bb), .val (.ref a1), .val (.int l1), .val (.int l2), .val (.long wa), .second, .val (.long wb), .second, .val (.ref b5), .unset] [(.int (nar .char (own_sym (own_g wa (4 : Int32))))), (.int (4 : Int32)), (.ref b5)]))
  refine o_castore H49 4 f47 (by decide) (Nat.le_of_ble_eq_true rfl) z5 at_287 rfl ?_
  intro T50 h50 H50 W50 A50
  have k51 := k42.wr W50 (Or.inr y5)
  have f52 := f43.wr W50
  have f53 := f44.other W50 (Or.inl ne5_a1)
  have f54 := f45.other W50 (Or.inl ne5_a1)
  have f55 := f46.other W50 ne5_vb
  have f56 : oA .char Z h50 b5 [(.int (nar .char (nar .char (own_sym (own_g wa (0 : Int32)))))), (.int (nar .char (nar .char (own_sym (own_g wa (1 : Int32)))))), (.int (nar .char (nar .char (own_sym (own_g wa (2 : Int32)))))), (.int (nar .char (nar .char (own_sym (own_g wa (3 : Int32)))))), (.int (nar .char (nar .char (own_sym (own_g wa (4 : Int32)))))), (.int 0), (.int 0), (.int 0), (.int 0), (.int 0), (.int 0), (.int 0), (.int 0), (.int 0), (.int 0), (.int 0)] := A50
  refine o_aload H50 rfl rfl at_288 rfl ?_
  refine o_iconst H50 (5 : Int32) rfl at_290 rfl ?_
  refine o_lload H50 rfl at_291 rfl ?_
  refine o_iconst H50 (5 : Int32) rfl at_293 rfl ?_
  refine o_static H50 [(.long wa), (.int (5 : Int32))] [(.int (5 : Int32)), (.ref b5)] (rm16 l Z a0 hw wa (5 : Int32) h50 n0 H50.le) (w94 hw) (w95 hw) (w89 hw) (w96 hw) (by decide) (lenOf pd16 rfl) rfl rfl (by decide) (Nat.le_of_ble_eq_true rfl) (by decide) (by decide) at_294 rfl ?_
  intro T57 v57 h57 H57 q57
  obtain ⟨rfl, rfl⟩ := q57
  show oG p e below s n0 _ _ _ (T57.setTop (mkF m 297 #[.val (.int p1), .val (.long p2), .second, .val (.long p3), .second, .val (.int kl), .val (.ref bb), .val (.ref a1), .val (.int l1), .val (.int l2), .val (.long wa), .second, .val (.long wb), .second, .val (.ref b5), .unset] [(.int (own_g wa (5 : Int32))), (.int (5 : Int32)), (.ref b5)]))
  refine o_static H57 [(.int (own_g wa (5 : Int32)))] [(.int (5 : Int32)), (.ref b5)] (rm17 l Z a0 hw (own_g wa (5 : Int32)) h50 n0 H57.le) (w98 hw) (w99 hw) (w89 hw) (w100 hw) (by decide) (lenOf pd17 rfl) rfl rfl (by decide) (Nat.le_of_ble_eq_true rfl) (by decide) (by decide) at_297 rfl ?_
  intro T58 v58 h58 H58 q58
  obtain ⟨rfl, rfl⟩ := q58
  show oG p e below s n0 _ _ _ (T58.setTop (mkF m 300 #[.val (.int p1), .val (.long p2), .second, .val (.long p3), .second, .val (.int kl), .val (.ref bb), .val (.ref a1), .val (.int l1), .val (.int l2), .val (.long wa), .second, .val (.long wb), .second, .val (.ref b5), .unset] [(.int (nar .char (own_sym (own_g wa (5 : Int32))))), (.int (5 : Int32)), (.ref b5)]))
  refine o_castore H58 5 f56 (by decide) (Nat.le_of_ble_eq_true rfl) z5 at_300 rfl ?_
  intro T59 h59 H59 W59 A59
  have k60 := k51.wr W59 (Or.inr y5)
  have f61 := f52.wr W59
  have f62 := f53.other W59 (Or.inl ne5_a1)
  have f63 := f54.other W59 (Or.inl ne5_a1)
  have f64 := f55.other W59 ne5_vb
  have f65 : oA .char Z h59 b5 [(.int (nar .char (nar .char (own_sym (own_g wa (0 : Int32)))))), (.int (nar .char (nar .char (own_sym (own_g wa (1 : Int32)))))), (.int (nar .char (nar .char (own_sym (own_g wa (2 : Int32)))))), (.int (nar .char (nar .char (own_sym (own_g wa (3 : Int32)))))), (.int (nar .char (nar .char (own_sym (own_g wa (4 : Int32)))))), (.int (nar .char (nar .char (own_sym (own_g wa (5 : Int32)))))), (.int 0), (.int 0), (.int 0), (.int 0), (.int 0), (.int 0), (.int 0), (.int 0), (.int 0), (.int 0)] := A59
  refine o_aload H59 rfl rfl at_301 rfl ?_
  refine o_bipush H59 (6 : Int32) rfl at_303 rfl ?_
  refine o_lload H59 rfl at_305 rfl ?_
  refine o_bipush H59 (6 : Int32) rfl at_307 rfl ?_
  refine o_static H59 [(.long wa), (.int (6 : Int32))] [(.int (6 : Int32)), (.ref b5)] (rm16 l Z a0 hw wa (6 : Int32) h59 n0 H59.le) (w94 hw) (w95 hw) (w89 hw) (w96 hw) (by decide) (lenOf pd16 rfl) rfl rfl (by decide) (Nat.le_of_ble_eq_true rfl) (by decide) (by decide) at_309 rfl ?_
  intro T66 v66 h66 H66 q66
  obtain ⟨rfl, rfl⟩ := q66
  show oG p e below s n0 _ _ _ (T66.setTop (mkF m 312 #[.val (.int p1), .val (.long p2), .second, .val (.long p3), .second, .val (.int kl), .val (.ref bb), .val (.ref a1), .val (.int l1), .val (.int l2), .val (.long wa), .second, .val (.long wb), .second, .val (.ref b5), .unset] [(.int (own_g wa (6 : Int32))), (.int (6 : Int32)), (.ref b5)]))
  refine o_static H66 [(.int (own_g wa (6 : Int32)))] [(.int (6 : Int32)), (.ref b5)] (rm17 l Z a0 hw (own_g wa (6 : Int32)) h59 n0 H66.le) (w98 hw) (w99 hw) (w89 hw) (w100 hw) (by decide) (lenOf pd17 rfl) rfl rfl (by decide) (Nat.le_of_ble_eq_true rfl) (by decide) (by decide) at_312 rfl ?_
  intro T67 v67 h67 H67 q67
  obtain ⟨rfl, rfl⟩ := q67
  show oG p e below s n0 _ _ _ (T67.setTop (mkF m 315 #[.val (.int p1), .val (.long p2), .second, .val (.long p3), .second, .val (.int kl), .val (.ref bb), .val (.ref a1), .val (.int l1), .val (.int l2), .val (.long wa), .second, .val (.long wb), .second, .val (.ref b5), .unset] [(.int (nar .char (own_sym (own_g wa (6 : Int32))))), (.int (6 : Int32)), (.ref b5)]))
  refine o_castore H67 6 f65 (by decide) (Nat.le_of_ble_eq_true rfl) z5 at_315 rfl ?_
  intro T68 h68 H68 W68 A68
  have k69 := k60.wr W68 (Or.inr y5)
  have f70 := f61.wr W68
  have f71 := f62.other W68 (Or.inl ne5_a1)
  have f72 := f63.other W68 (Or.inl ne5_a1)
  have f73 := f64.other W68 ne5_vb
  have f74 : oA .char Z h68 b5 [(.int (nar .char (nar .char (own_sym (own_g wa (0 : Int32)))))), (.int (nar .char (nar .char (own_sym (own_g wa (1 : Int32)))))), (.int (nar .char (nar .char (own_sym (own_g wa (2 : Int32)))))), (.int (nar .char (nar .char (own_sym (own_g wa (3 : Int32)))))), (.int (nar .char (nar .char (own_sym (own_g wa (4 : Int32)))))), (.int (nar .char (nar .char (own_sym (own_g wa (5 : Int32)))))), (.int (nar .char (nar .char (own_sym (own_g wa (6 : Int32)))))), (.int 0), (.int 0), (.int 0), (.int 0), (.int 0), (.int 0), (.int 0), (.int 0), (.int 0)] := A68
  refine o_aload H68 rfl rfl at_316 rfl ?_
  refine o_bipush H68 (7 : Int32) rfl at_318 rfl ?_
  refine o_lload H68 rfl at_320 rfl ?_
  refine o_bipush H68 (7 : Int32) rfl at_322 rfl ?_
  refine o_static H68 [(.long wa), (.int (7 : Int32))] [(.int (7 : Int32)), (.ref b5)] (rm16 l Z a0 hw wa (7 : Int32) h68 n0 H68.le) (w94 hw) (w95 hw) (w89 hw) (w96 hw) (by decide) (lenOf pd16 rfl) rfl rfl (by decide) (Nat.le_of_ble_eq_true rfl) (by decide) (by decide) at_324 rfl ?_
  intro T75 v75 h75 H75 q75
  obtain ⟨rfl, rfl⟩ := q75
  show oG p e below s n0 _ _ _ (T75.setTop (mkF m 327 #[.val (.int p1), .val (.long p2), .second, .val (.long p3), .second, .val (.int kl), .val (.ref bb), .val (.ref a1), .val (.int l1), .val (.int l2), .val (.long wa), .second, .val (.long wb), .second, .val (.ref b5), .unset] [(.int (own_g wa (7 : Int32))), (.int (7 : Int32)), (.ref b5)]))
  refine o_static H75 [(.int (own_g wa (7 : Int32)))] [(.int (7 : Int32)), (.ref b5)] (rm17 l Z a0 hw (own_g wa (7 : Int32)) h68 n0 H75.le) (w98 hw) (w99 hw) (w89 hw) (w100 hw) (by decide) (lenOf pd17 rfl) rfl rfl (by decide) (Nat.le_of_ble_eq_true rfl) (by decide) (by decide) at_327 rfl ?_
  intro T76 v76 h76 H76 q76
  obtain ⟨rfl, rfl⟩ := q76
  show oG p e below s n0 _ _ _ (T76.setTop (mkF m 330 #[.val (.int p1), .val (.long p2), .second, .val (.long p3), .second, .val (.int kl), .val (.ref bb), .val (.ref a1), .val (.int l1), .val (.int l2), .val (.long wa), .second, .val (.long wb), .second, .val (.ref b5), .unset] [(.int (nar .char (own_sym (own_g wa (7 : Int32))))), (.int (7 : Int32)), (.ref b5)]))
  refine o_castore H76 7 f74 (by decide) (Nat.le_of_ble_eq_true rfl) z5 at_330 rfl ?_
  intro T77 h77 H77 W77 A77
  have k78 := k69.wr W77 (Or.inr y5)
  have f79 := f70.wr W77
  have f80 := f71.other W77 (Or.inl ne5_a1)
  have f81 := f72.other W77 (Or.inl ne5_a1)
  have f82 := f73.other W77 ne5_vb
  have f83 : oA .char Z h77 b5 [(.int (nar .char (nar .char (own_sym (own_g wa (0 : Int32)))))), (.int (nar .char (nar .char (own_sym (own_g wa (1 : Int32)))))), (.int (nar .char (nar .char (own_sym (own_g wa (2 : Int32)))))), (.int (nar .char (nar .char (own_sym (own_g wa (3 : Int32)))))), (.int (nar .char (nar .char (own_sym (own_g wa (4 : Int32)))))), (.int (nar .char (nar .char (own_sym (own_g wa (5 : Int32)))))), (.int (nar .char (nar .char (own_sym (own_g wa (6 : Int32)))))), (.int (nar .char (nar .char (own_sym (own_g wa (7 : Int32)))))), (.int 0), (.int 0), (.int 0), (.int 0), (.int 0), (.int 0), (.int 0), (.int 0)] := A77
  refine o_aload H77 rfl rfl at_331 rfl ?_
  refine o_bipush H77 (8 : Int32) rfl at_333 rfl ?_
  refine o_lload H77 rfl at_335 rfl ?_
  refine o_iconst H77 (0 : Int32) rfl at_337 rfl ?_
  refine o_static H77 [(.long wb), (.int (0 : Int32))] [(.int (8 : Int32)), (.ref b5)] (rm16 l Z a0 hw wb (0 : Int32) h77 n0 H77.le) (w94 hw) (w95 hw) (w89 hw) (w96 hw) (by decide) (lenOf pd16 rfl) rfl rfl (by decide) (Nat.le_of_ble_eq_true rfl) (by decide) (by decide) at_338 rfl ?_
  intro T84 v84 h84 H84 q84
  obtain ⟨rfl, rfl⟩ := q84
  show oG p e below s n0 _ _ _ (T84.setTop (mkF m 341 #[.val (.int p1), .val (.long p2), .second, .val (.long p3), .second, .val (.int kl), .val (.ref bb), .val (.ref a1), .val (.int l1), .val (.int l2), .val (.long wa), .second, .val (.long wb), .second, .val (.ref b5), .unset] [(.int (own_g wb (0 : Int32))), (.int (8 : Int32)), (.ref b5)]))
  refine o_static H84 [(.int (own_g wb (0 : Int32)))] [(.int (8 : Int32)), (.ref b5)] (rm17 l Z a0 hw (own_g wb (0 : Int32)) h77 n0 H84.le) (w98 hw) (w99 hw) (w89 hw) (w100 hw) (by decide) (lenOf pd17 rfl) rfl rfl (by decide) (Nat.le_of_ble_eq_true rfl) (by decide) (by decide) at_341 rfl ?_
  intro T85 v85 h85 H85 q85
  obtain ⟨rfl, rfl⟩ := q85
  show oG p e below s n0 _ _ _ (T85.setTop (mkF m 344 #[.val (.int p1), .val (.long p2), .second, .val (.long p3), .second, .val (.int kl), .val (.ref bb), .val (.ref a1), .val (.int l1), .val (.int l2), .val (.long wa), .second, .val (.long wb), .second, .val (.ref b5), .unset] [(.int (nar .char (own_sym (own_g wb (0 : Int32))))), (.int (8 : Int32)), (.ref b5)]))
  refine o_castore H85 8 f83 (by decide) (Nat.le_of_ble_eq_true rfl) z5 at_344 rfl ?_
  intro T86 h86 H86 W86 A86
  have k87 := k78.wr W86 (Or.inr y5)
  have f88 := f79.wr W86
  have f89 := f80.other W86 (Or.inl ne5_a1)
  have f90 := f81.other W86 (Or.inl ne5_a1)
  have f91 := f82.other W86 ne5_vb
  have f92 : oA .char Z h86 b5 [(.int (nar .char (nar .char (own_sym (own_g wa (0 : Int32)))))), (.int (nar .char (nar .char (own_sym (own_g wa (1 : Int32)))))), (.int (nar .char (nar .char (own_sym (own_g wa (2 : Int32)))))), (.int (nar .char (nar .char (own_sym (own_g wa (3 : Int32)))))), (.int (nar .char (nar .char (own_sym (own_g wa (4 : Int32)))))), (.int (nar .char (nar .char (own_sym (own_g wa (5 : Int32)))))), (.int (nar .char (nar .char (own_sym (own_g wa (6 : Int32)))))), (.int (nar .char (nar .char (own_sym (own_g wa (7 : Int32)))))), (.int (nar .char (nar .char (own_sym (own_g wb (0 : Int32)))))), (.int 0), (.int 0), (.int 0), (.int 0), (.int 0), (.int 0), (.int 0)] := A86
  refine o_aload H86 rfl rfl at_345 rfl ?_
  refine o_bipush H86 (9 : Int32) rfl at_347 rfl ?_
  refine o_lload H86 rfl at_349 rfl ?_
  refine o_iconst H86 (1 : Int32) rfl at_351 rfl ?_
  refine o_static H86 [(.long wb), (.int (1 : Int32))] [(.int (9 : Int32)), (.ref b5)] (rm16 l Z a0 hw wb (1 : Int32) h86 n0 H86.le) (w94 hw) (w95 hw) (w89 hw) (w96 hw) (by decide) (lenOf pd16 rfl) rfl rfl (by decide) (Nat.le_of_ble_eq_true rfl) (by decide) (by decide) at_352 rfl ?_
  intro T93 v93 h93 H93 q93
  obtain ⟨rfl, rfl⟩ := q93
  show oG p e below s n0 _ _ _ (T93.setTop (mkF m 355 #[.val (.int p1), .val (.long p2), .second, .val (.long p3), .second, .val (.int kl), .val (.ref bb), .val (.ref a1), .val (.int l1), .val (.int l2), .val (.long wa), .second, .val (.long wb), .second, .val (.ref b5), .unset] [(.int (own_g wb (1 : Int32))), (.int (9 : Int32)), (.ref b5)]))
  refine o_static H93 [(.int (own_g wb (1 : Int32)))] [(.int (9 : Int32)), (.ref b5)] (rm17 l Z a0 hw (own_g wb (1 : Int32)) h86 n0 H93.le) (w98 hw) (w99 hw) (w89 hw) (w100 hw) (by decide) (lenOf pd17 rfl) rfl rfl (by decide) (Nat.le_of_ble_eq_true rfl) (by decide) (by decide) at_355 rfl ?_
  intro T94 v94 h94 H94 q94
  obtain ⟨rfl, rfl⟩ := q94
  show oG p e below s n0 _ _ _ (T94.setTop (mkF m 358 #[.val (.int p1), .val (.long p2), .second, .val (.long p3), .second, .val (.int kl), .val (.ref bb), .val (.ref a1), .val (.int l1), .val (.int l2), .val (.long wa), .second, .val (.long wb), .second, .val (.ref b5), .unset] [(.int (nar .char (own_sym (own_g wb (1 : Int32))))), (.int (9 : Int32)), (.ref b5)]))
  refine o_castore H94 9 f92 (by decide) (Nat.le_of_ble_eq_true rfl) z5 at_358 rfl ?_
  intro T95 h95 H95 W95 A95
  have k96 := k87.wr W95 (Or.inr y5)
  have f97 := f88.wr W95
  have f98 := f89.other W95 (Or.inl ne5_a1)
  have f99 := f90.other W95 (Or.inl ne5_a1)
  have f100 := f91.other W95 ne5_vb
  have f101 : oA .char Z h95 b5 [(.int (nar .char (nar .char (own_sym (own_g wa (0 : Int32)))))), (.int (nar .char (nar .char (own_sym (own_g wa (1 : Int32)))))), (.int (nar .char (nar .char (own_sym (own_g wa (2 : Int32)))))), (.int (nar .char (nar .char (own_sym (own_g wa (3 : Int32)))))), (.int (nar .char (nar .char (own_sym (own_g wa (4 : Int32)))))), (.int (nar .char (nar .char (own_sym (own_g wa (5 : Int32)))))), (.int (nar .char (nar .char (own_sym (own_g wa (6 : Int32)))))), (.int (nar .char (nar .char (own_sym (own_g wa (7 : Int32)))))), (.int (nar .char (nar .char (own_sym (own_g wb (0 : Int32)))))), (.int (nar .char (nar .char (own_sym (own_g wb (1 : Int32)))))), (.int 0), (.int 0), (.int 0), (.int 0), (.int 0), (.int 0)] := A95
  refine o_aload H95 rfl rfl at_359 rfl ?_
  refine o_bipush H95 (10 : Int32) rfl at_361 rfl ?_
  refine o_lload H95 rfl at_363 rfl ?_
  refine o_iconst H95 (2 : Int32) rfl at_365 rfl ?_
  refine o_static H95 [(.long wb), (.int (2 : Int32))] [(.int (10 : Int32)), (.ref b5)] (rm16 l Z a0 hw wb (2 : Int32) h95 n0 H95.le) (w94 hw) (w95 hw) (w89 hw) (w96 hw) (by decide) (lenOf pd16 rfl) rfl rfl (by decide) (Nat.le_of_ble_eq_true rfl) (by decide) (by decide) at_366 rfl ?_
  intro T102 v102 h102 H102 q102
  obtain ⟨rfl, rfl⟩ := q102
  show oG p e below s n0 _ _ _ (T102.setTop (mkF m 369 #[.val (.int p1), .val (.long p2), .second, .val (.long p3), .second, .val (.int kl), .val (.ref bb), .val (.ref a1), .val (.int l1), .val (.int l2), .val (.long wa), .second, .val (.long wb), .second, .val (.ref b5), .unset] [(.int (own_g wb (2 : Int32))), (.int (10 : Int32)), (.ref b5)]))
  refine o_static H102 [(.int (own_g wb (2 : Int32)))] [(.int (10 : Int32)), (.ref b5)] (rm17 l Z a0 hw (own_g wb (2 : Int32)) h95 n0 H102.le) (w98 hw) (w99 hw) (w89 hw) (w100 hw) (by decide) (lenOf pd17 rfl) rfl rfl (by decide) (Nat.le_of_ble_eq_true rfl) (by decide) (by decide) at_369 rfl ?_
  intro T103 v103 h103 H103 q103
  obtain ⟨rfl, rfl⟩ := q103
  show oG p e below s n0 _ _ _ (T103.setTop (mkF m 372 #[.val (.int p1), .val (.long p2), .second, .val (.long p3), .second, .val (.int kl), .val (.ref bb), .val (.ref a1), .val (.int l1), .val (.int l2), .val (.long wa), .second, .val (.long wb), .second, .val (.ref b5), .unset] [(.int (nar .char (own_sym (own_g wb (2 : Int32))))), (.int (10 : Int32)), (.ref b5)]))
  refine o_castore H103 10 f101 (by decide) (Nat.le_of_ble_eq_true rfl) z5 at_372 rfl ?_
  intro T104 h104 H104 W104 A104
  have k105 := k96.wr W104 (Or.inr y5)
  have f106 := f97.wr W104
  have f107 := f98.other W104 (Or.inl ne5_a1)
  have f108 := f99.other W104 (Or.inl ne5_a1)
  have f109 := f100.other W104 ne5_vb
  have f110 : oA .char Z h104 b5 [(.int (nar .char (nar .char (own_sym (own_g wa (0 : Int32)))))), (.int (nar .char (nar .char (own_sym (own_g wa (1 : Int32)))))), (.int (nar .char (nar .char (own_sym (own_g wa (2 : Int32)))))), (.int (nar .char (nar .char (own_sym (own_g wa (3 : Int32)))))), (.int (nar .char (nar .char (own_sym (own_g wa (4 : Int32)))))), (.int (nar .char (nar .char (own_sym (own_g wa (5 : Int32)))))), (.int (nar .char (nar .char (own_sym (own_g wa (6 : Int32)))))), (.int (nar .char (nar .char (own_sym (own_g wa (7 : Int32)))))), (.int (nar .char (nar .char (own_sym (own_g wb (0 : Int32)))))), (.int (nar .char (nar .char (own_sym (own_g wb (1 : Int32)))))), (.int (nar .char (nar .char (own_sym (own_g wb (2 : Int32)))))), (.int 0), (.int 0), (.int 0), (.int 0), (.int 0)] := A104
  refine o_aload H104 rfl rfl at_373 rfl ?_
  refine o_bipush H104 (11 : Int32) rfl at_375 rfl ?_
  refine o_lload H104 rfl at_377 rfl ?_
  refine o_iconst H104 (3 : Int32) rfl at_379 rfl ?_
  refine o_static H104 [(.long wb), (.int (3 : Int32))] [(.int (11 : Int32)), (.ref b5)] (rm16 l Z a0 hw wb (3 : Int32) h104 n0 H104.le) (w94 hw) (w95 hw) (w89 hw) (w96 hw) (by decide) (lenOf pd16 rfl) rfl rfl (by decide) (Nat.le_of_ble_eq_true rfl) (by decide) (by decide) at_380 rfl ?_
  intro T111 v111 h111 H111 q111
  obtain ⟨rfl, rfl⟩ := q111
  show oG p e below s n0 _ _ _ (T111.setTop (mkF m 383 #[.val (.int p1), .val (.long p2), .second, .val (.long p3), .second, .val (.int kl), .val (.ref bb), .val (.ref a1), .val (.int l1), .val (.int l2), .val (.long wa), .second, .val (.long wb), .second, .val (.ref b5), .unset] [(.int (own_g wb (3 : Int32))), (.int (11 : Int32)), (.ref b5)]))
  refine o_static H111 [(.int (own_g wb (3 : Int32)))] [(.int (11 : Int32)), (.ref b5)] (rm17 l Z a0 hw (own_g wb (3 : Int32)) h104 n0 H111.le) (w98 hw) (w99 hw) (w89 hw) (w100 hw) (by decide) (lenOf pd17 rfl) rfl rfl (by decide) (Nat.le_of_ble_eq_true rfl) (by decide) (by decide) at_383 rfl ?_
  intro T112 v112 h112 H112 q112
  obtain ⟨rfl, rfl⟩ := q112
  show oG p e below s n0 _ _ _ (T112.setTop (mkF m 386 #[.val (.int p1), .val (.long p2), .second, .val (.long p3), .second, .val (.int kl), .val (.ref bb), .val (.ref a1), .val (.int l1), .val (.int l2), .val (.long wa), .second, .val (.long wb), .second, .val (.ref b5), .unset] [(.int (nar .char (own_sym (own_g wb (3 : Int32))))), (.int (11 : Int32)), (.ref b5)]))
  refine o_castore H112 11 f110 (by decide) (Nat.le_of_ble_eq_true rfl) z5 at_386 rfl ?_
  intro T113 h113 H113 W113 A113
  have k114 := k105.wr W113 (Or.inr y5)
  have f115 := f106.wr W113
  have f116 := f107.other W113 (Or.inl ne5_a1)
  have f117 := f108.other W113 (Or.inl ne5_a1)
  have f118 := f109.other W113 ne5_vb
  have f119 : oA .char Z h113 b5 [(.int (nar .char (nar .char (own_sym (own_g wa (0 : Int32)))))), (.int (nar .char (nar .char (own_sym (own_g wa (1 : Int32)))))), (.int (nar .char (nar .char (own_sym (own_g wa (2 : Int32)))))), (.int (nar .char (nar .char (own_sym (own_g wa (3 : Int32)))))), (.int (nar .char (nar .char (own_sym (own_g wa (4 : Int32)))))), (.int (nar .char (nar .char (own_sym (own_g wa (5 : Int32)))))), (.int (nar .char (nar .char (own_sym (own_g wa (6 : Int32)))))), (.int (nar .char (nar .char (own_sym (own_g wa (7 : Int32)))))), (.int (nar .char (nar .char (own_sym (own_g wb (0 : Int32)))))), (.int (nar .char (nar .char (own_sym (own_g wb (1 : Int32)))))), (.int (nar .char (nar .char (own_sym (own_g wb (2 : Int32)))))), (.int (nar .char (nar .char (own_sym (own_g wb (3 : Int32)))))), (.int 0), (.int 0), (.int 0), (.int 0)] := A113
  refine o_aload H113 rfl rfl at_387 rfl ?_
  refine o_bipush H113 (12 : Int32) rfl at_389 rfl ?_
  refine o_lload H113 rfl at_391 rfl ?_
  refine o_iconst H113 (4 : Int32) rfl at_393 rfl ?_
  refine o_static H113 [(.long wb), (.int (4 : Int32))] [(.int (12 : Int32)), (.ref b5)] (rm16 l Z a0 hw wb (4 : Int32) h113 n0 H113.le) (w94 hw) (w95 hw) (w89 hw) (w96 hw) (by decide) (lenOf pd16 rfl) rfl rfl (by decide) (Nat.le_of_ble_eq_true rfl) (by decide) (by decide) at_394 rfl ?_
  intro T120 v120 h120 H120 q120
  obtain ⟨rfl, rfl⟩ := q120
  show oG p e below s n0 _ _ _ (T120.setTop (mkF m 397 #[.val (.int p1), .val (.long p2), .second, .val (.long p3), .second, .val (.int kl), .val (.ref bb), .val (.ref a1), .val (.int l1), .val (.int l2), .val (.long wa), .second, .val (.long wb), .second, .val (.ref b5), .unset] [(.int (own_g wb (4 : Int32))), (.int (12 : Int32)), (.ref b5)]))
  refine o_static H120 [(.int (own_g wb (4 : Int32)))] [(.int (12 : Int32)), (.ref b5)] (rm17 l Z a0 hw (own_g wb (4 : Int32)) h113 n0 H120.le) (w98 hw) (w99 hw) (w89 hw) (w100 hw) (by decide) (lenOf pd17 rfl) rfl rfl (by decide) (Nat.le_of_ble_eq_true rfl) (by decide) (by decide) at_397 rfl ?_
  intro T121 v121 h121 H121 q121
  obtain ⟨rfl, rfl⟩ := q121
  show oG p e below s n0 _ _ _ (T121.setTop (mkF m 400 #[.val (.int p1), .val (.long p2), .second, .val (.long p3), .second, .val (.int kl), .val (.ref bb), .val (.ref a1), .val (.int l1), .val (.int l2), .val (.long wa), .second, .val (.long wb), .second, .val (.ref b5), .unset] [(.int (nar .char (own_sym (own_g wb (4 : Int32))))), (.int (12 : Int32)), (.ref b5)]))
  refine o_castore H121 12 f119 (by decide) (Nat.le_of_ble_eq_true rfl) z5 at_400 rfl ?_
  intro T122 h122 H122 W122 A122
  have k123 := k114.wr W122 (Or.inr y5)
  have f124 := f115.wr W122
  have f125 := f116.other W122 (Or.inl ne5_a1)
  have f126 := f117.other W122 (Or.inl ne5_a1)
  have f127 := f118.other W122 ne5_vb
  have f128 : oA .char Z h122 b5 [(.int (nar .char (nar .char (own_sym (own_g wa (0 : Int32)))))), (.int (nar .char (nar .char (own_sym (own_g wa (1 : Int32)))))), (.int (nar .char (nar .char (own_sym (own_g wa (2 : Int32)))))), (.int (nar .char (nar .char (own_sym (own_g wa (3 : Int32)))))), (.int (nar .char (nar .char (own_sym (own_g wa (4 : Int32)))))), (.int (nar .char (nar .char (own_sym (own_g wa (5 : Int32)))))), (.int (nar .char (nar .char (own_sym (own_g wa (6 : Int32)))))), (.int (nar .char (nar .char (own_sym (own_g wa (7 : Int32)))))), (.int (nar .char (nar .char (own_sym (own_g wb (0 : Int32)))))), (.int (nar .char (nar .char (own_sym (own_g wb (1 : Int32)))))), (.int (nar .char (nar .char (own_sym (own_g wb (2 : Int32)))))), (.int (nar .char (nar .char (own_sym (own_g wb (3 : Int32)))))), (.int (nar .char (nar .char (own_sym (own_g wb (4 : Int32)))))), (.int 0), (.int 0), (.int 0)] := A122
  refine o_aload H122 rfl rfl at_401 rfl ?_
  refine o_bipush H122 (13 : Int32) rfl at_403 rfl ?_
  refine o_lload H122 rfl at_405 rfl ?_
  refine o_iconst H122 (5 : Int32) rfl at_407 rfl ?_
  refine o_static H122 [(.long wb), (.int (5 : Int32))] [(.int (13 : Int32)), (.ref b5)] (rm16 l Z a0 hw wb (5 : Int32) h122 n0 H122.le) (w94 hw) (w95 hw) (w89 hw) (w96 hw) (by decide) (lenOf pd16 rfl) rfl rfl (by decide) (Nat.le_of_ble_eq_true rfl) (by decide) (by decide) at_408 rfl ?_
  intro T129 v129 h129 H129 q129
  obtain ⟨rfl, rfl⟩ := q129
  show oG p e below s n0 _ _ _ (T129.setTop (mkF m 411 #[.val (.int p1), .val (.long p2), .second, .val (.long p3), .second, .val (.int kl), .val (.ref bb), .val (.ref a1), .val (.int l1), .val (.int l2), .val (.long wa), .second, .val (.long wb), .second, .val (.ref b5), .unset] [(.int (own_g wb (5 : Int32))), (.int (13 : Int32)), (.ref b5)]))
  refine o_static H129 [(.int (own_g wb (5 : Int32)))] [(.int (13 : Int32)), (.ref b5)] (rm17 l Z a0 hw (own_g wb (5 : Int32)) h122 n0 H129.le) (w98 hw) (w99 hw) (w89 hw) (w100 hw) (by decide) (lenOf pd17 rfl) rfl rfl (by decide) (Nat.le_of_ble_eq_true rfl) (by decide) (by decide) at_411 rfl ?_
  intro T130 v130 h130 H130 q130
  obtain ⟨rfl, rfl⟩ := q130
  show oG p e below s n0 _ _ _ (T130.setTop (mkF m 414 #[.val (.int p1), .val (.long p2), .second, .val (.long p3), .second, .val (.int kl), .val (.ref bb), .val (.ref a1), .val (.int l1), .val (.int l2), .val (.long wa), .second, .val (.long wb), .second, .val (.ref b5), .unset] [(.int (nar .char (own_sym (own_g wb (5 : Int32))))), (.int (13 : Int32)), (.ref b5)]))
  refine o_castore H130 13 f128 (by decide) (Nat.le_of_ble_eq_true rfl) z5 at_414 rfl ?_
  intro T131 h131 H131 W131 A131
  have k132 := k123.wr W131 (Or.inr y5)
  have f133 := f124.wr W131
  have f134 := f125.other W131 (Or.inl ne5_a1)
  have f135 := f126.other W131 (Or.inl ne5_a1)
  have f136 := f127.other W131 ne5_vb
  have f137 : oA .char Z h131 b5 [(.int (nar .char (nar .char (own_sym (own_g wa (0 : Int32)))))), (.int (nar .char (nar .char (own_sym (own_g wa (1 : Int32)))))), (.int (nar .char (nar .char (own_sym (own_g wa (2 : Int32)))))), (.int (nar .char (nar .char (own_sym (own_g wa (3 : Int32)))))), (.int (nar .char (nar .char (own_sym (own_g wa (4 : Int32)))))), (.int (nar .char (nar .char (own_sym (own_g wa (5 : Int32)))))), (.int (nar .char (nar .char (own_sym (own_g wa (6 : Int32)))))), (.int (nar .char (nar .char (own_sym (own_g wa (7 : Int32)))))), (.int (nar .char (nar .char (own_sym (own_g wb (0 : Int32)))))), (.int (nar .char (nar .char (own_sym (own_g wb (1 : Int32)))))), (.int (nar .char (nar .char (own_sym (own_g wb (2 : Int32)))))), (.int (nar .char (nar .char (own_sym (own_g wb (3 : Int32)))))), (.int (nar .char (nar .char (own_sym (own_g wb (4 : Int32)))))), (.int (nar .char (nar .char (own_sym (own_g wb (5 : Int32)))))), (.int 0), (.int 0)] := A131
  refine o_aload H131 rfl rfl at_415 rfl ?_
  refine o_bipush H131 (14 : Int32) rfl at_417 rfl ?_
  refine o_lload H131 rfl at_419 rfl ?_
  refine o_bipush H131 (6 : Int32) rfl at_421 rfl ?_
  refine o_static H131 [(.long wb), (.int (6 : Int32))] [(.int (14 : Int32)), (.ref b5)] (rm16 l Z a0 hw wb (6 : Int32) h131 n0 H131.le) (w94 hw) (w95 hw) (w89 hw) (w96 hw) (by decide) (lenOf pd16 rfl) rfl rfl (by decide) (Nat.le_of_ble_eq_true rfl) (by decide) (by decide) at_423 rfl ?_
  intro T138 v138 h138 H138 q138
  obtain ⟨rfl, rfl⟩ := q138
  show oG p e below s n0 _ _ _ (T138.setTop (mkF m 426 #[.val (.int p1), .val (.long p2), .second, .val (.long p3), .second, .val (.int kl), .val (.ref bb), .val (.ref a1), .val (.int l1), .val (.int l2), .val (.long wa), .second, .val (.long wb), .second, .val (.ref b5), .unset] [(.int (own_g wb (6 : Int32))), (.int (14 : Int32)), (.ref b5)]))
  refine o_static H138 [(.int (own_g wb (6 : Int32)))] [(.int (14 : Int32)), (.ref b5)] (rm17 l Z a0 hw (own_g wb (6 : Int32)) h131 n0 H138.le) (w98 hw) (w99 hw) (w89 hw) (w100 hw) (by decide) (lenOf pd17 rfl) rfl rfl (by decide) (Nat.le_of_ble_eq_true rfl) (by decide) (by decide) at_426 rfl ?_
  intro T139 v139 h139 H139 q139
  obtain ⟨rfl, rfl⟩ := q139
  show oG p e below s n0 _ _ _ (T139.setTop (mkF m 429 #[.val (.int p1), .val (.long p2), .second, .val (.long p3), .second, .val (.int kl), .val (.ref bb), .val (.ref a1), .val (.int l1), .val (.int l2), .val (.long wa), .second, .val (.long wb), .second, .val (.ref b5), .unset] [(.int (nar .char (own_sym (own_g wb (6 : Int32))))), (.int (14 : Int32)), (.ref b5)]))
  refine o_castore H139 14 f137 (by decide) (Nat.le_of_ble_eq_true rfl) z5 at_429 rfl ?_
  intro T140 h140 H140 W140 A140
  have k141 := k132.wr W140 (Or.inr y5)
  have f142 := f133.wr W140
  have f143 := f134.other W140 (Or.inl ne5_a1)
  have f144 := f135.other W140 (Or.inl ne5_a1)
  have f145 := f136.other W140 ne5_vb
  have f146 : oA .char Z h140 b5 [(.int (nar .char (nar .char (own_sym (own_g wa (0 : Int32)))))), (.int (nar .char (nar .char (own_sym (own_g wa (1 : Int32)))))), (.int (nar .char (nar .char (own_sym (own_g wa (2 : Int32)))))), (.int (nar .char (nar .char (own_sym (own_g wa (3 : Int32)))))), (.int (nar .char (nar .char (own_sym (own_g wa (4 : Int32)))))), (.int (nar .char (nar .char (own_sym (own_g wa (5 : Int32)))))), (.int (nar .char (nar .char (own_sym (own_g wa (6 : Int32)))))), (.int (nar .char (nar .char (own_sym (own_g wa (7 : Int32)))))), (.int (nar .char (nar .char (own_sym (own_g wb (0 : Int32)))))), (.int (nar .char (nar .char (own_sym (own_g wb (1 : Int32)))))), (.int (nar .char (nar .char (own_sym (own_g wb (2 : Int32)))))), (.int (nar .char (nar .char (own_sym (own_g wb (3 : Int32)))))), (.int (nar .char (nar .char (own_sym (own_g wb (4 : Int32)))))), (.int (nar .char (nar .char (own_sym (own_g wb (5 : Int32)))))), (.int (nar .char (nar .char (own_sym (own_g wb (6 : Int32)))))), (.int 0)] := A140
  refine o_aload H140 rfl rfl at_430 rfl ?_
  refine o_bipush H140 (15 : Int32) rfl at_432 rfl ?_
  refine o_lload H140 rfl at_434 rfl ?_
  refine o_bipush H140 (7 : Int32) rfl at_436 rfl ?_
  refine o_static H140 [(.long wb), (.int (7 : Int32))] [(.int (15 : Int32)), (.ref b5)] (rm16 l Z a0 hw wb (7 : Int32) h140 n0 H140.le) (w94 hw) (w95 hw) (w89 hw) (w96 hw) (by decide) (lenOf pd16 rfl) rfl rfl (by decide) (Nat.le_of_ble_eq_true rfl) (by decide) (by decide) at_438 rfl ?_
  intro T147 v147 h147 H147 q147
  obtain ⟨rfl, rfl⟩ := q147
  show oG p e below s n0 _ _ _ (T147.setTop (mkF m 441 #[.val (.int p1), .val (.long p2), .second, .val (.long p3), .second, .val (.int kl), .val (.ref bb), .val (.ref a1), .val (.int l1), .val (.int l2), .val (.long wa), .second, .val (.long wb), .second, .val (.ref b5), .unset] [(.int (own_g wb (7 : Int32))), (.int (15 : Int32)), (.ref b5)]))
  refine o_static H147 [(.int (own_g wb (7 : Int32)))] [(.int (15 : Int32)), (.ref b5)] (rm17 l Z a0 hw (own_g wb (7 : Int32)) h140 n0 H147.le) (w98 hw) (w99 hw) (w89 hw) (w100 hw) (by decide) (lenOf pd17 rfl) rfl rfl (by decide) (Nat.le_of_ble_eq_true rfl) (by decide) (by decide) at_441 rfl ?_
  intro T148 v148 h148 H148 q148
  obtain ⟨rfl, rfl⟩ := q148
  show oG p e below s n0 _ _ _ (T148.setTop (mkF m 444 #[.val (.int p1), .val (.long p2), .second, .val (.long p3), .second, .val (.int kl), .val (.ref bb), .val (.ref a1), .val (.int l1), .val (.int l2), .val (.long wa), .second, .val (.long wb), .second, .val (.ref b5), .unset] [(.int (nar .char (own_sym (own_g wb (7 : Int32))))), (.int (15 : Int32)), (.ref b5)]))
  refine o_castore H148 15 f146 (by decide) (Nat.le_of_ble_eq_true rfl) z5 at_444 rfl ?_
  intro T149 h149 H149 W149 A149
  have k150 := k141.wr W149 (Or.inr y5)
  have f151 := f142.wr W149
  have f152 := f143.other W149 (Or.inl ne5_a1)
  have f153 := f144.other W149 (Or.inl ne5_a1)
  have f154 := f145.other W149 ne5_vb
  have f155 : oA .char Z h149 b5 [(.int (nar .char (nar .char (own_sym (own_g wa (0 : Int32)))))), (.int (nar .char (nar .char (own_sym (own_g wa (1 : Int32)))))), (.int (nar .char (nar .char (own_sym (own_g wa (2 : Int32)))))), (.int (nar .char (nar .char (own_sym (own_g wa (3 : Int32)))))), (.int (nar .char (nar .char (own_sym (own_g wa (4 : Int32)))))), (.int (nar .char (nar .char (own_sym (own_g wa (5 : Int32)))))), (.int (nar .char (nar .char (own_sym (own_g wa (6 : Int32)))))), (.int (nar .char (nar .char (own_sym (own_g wa (7 : Int32)))))), (.int (nar .char (nar .char (own_sym (own_g wb (0 : Int32)))))), (.int (nar .char (nar .char (own_sym (own_g wb (1 : Int32)))))), (.int (nar .char (nar .char (own_sym (own_g wb (2 : Int32)))))), (.int (nar .char (nar .char (own_sym (own_g wb (3 : Int32)))))), (.int (nar .char (nar .char (own_sym (own_g wb (4 : Int32)))))), (.int (nar .char (nar .char (own_sym (own_g wb (5 : Int32)))))), (.int (nar .char (nar .char (own_sym (own_g wb (6 : Int32)))))), (.int (nar .char (nar .char (own_sym (own_g wb (7 : Int32))))))] := A149
  refine o_bipush H149 (8 : Int32) rfl at_445 rfl ?_
  refine o_iload H149 rfl at_447 rfl ?_
  refine o_imul H149 at_449 rfl ?_
  refine o_iconst H149 (4 : Int32) rfl at_450 rfl ?_
  refine o_iadd H149 at_451 rfl ?_
  refine o_iconst H149 (5 : Int32) rfl at_452 rfl ?_
  refine o_idiv H149 (by decide) at_453 rfl ?_
  refine o_istore H149 (L' := #[.val (.int p1), .val (.long p2), .second, .val (.long p3), .second, .val (.int kl), .val (.ref bb), .val (.ref a1), .val (.int l1), .val (.int l2), .val (.long wa), .second, .val (.long wb), .second, .val (.ref b5), .val (.int ((((8 : Int32) * kl) + (4 : Int32)) / (5 : Int32)))]) rfl at_454 rfl ?_
  obtain ⟨nl, e_nl⟩ : ∃ z : Int32, z = ((((8 : Int32) * kl) + (4 : Int32)) / (5 : Int32)) := ⟨_, rfl⟩
  rw [← e_nl]
  have hln : vs.length.toInt32 = nl := hlen.trans e_nl.symm
  have AE : oA .char Z h149 b5 (own_es wa wb) := f155
  refine o_aload H149 rfl rfl at_456 rfl ?_
  refine o_virtual H149 [] [] (rm18 l Z a0 hw a1 vb vs cs h149 n0 H149.le f151 f152 f153 f154 (S_c.ext (o_kext k150)) hcs) f151 (w101 hw) (w102 hw) (o_nf (w104 hw)) (w104 hw) (w103 hw) (w22 hw) (w105 hw) (by decide) (lenOf pd18 rfl) rfl rfl (by decide) (Nat.le_of_ble_eq_true rfl) (by decide) (by decide) at_458 rfl ?_
  intro T156 v156 h156 H156 q156
  obtain ⟨rfl, rfl⟩ := q156
  show oG p e below s n0 _ _ _ (T156.setTop (mkF m 461 #[.val (.int p1), .val (.long p2), .second, .val (.long p3), .second, .val (.int kl), .val (.ref bb), .val (.ref a1), .val (.int l1), .val (.int l2), .val (.long wa), .second, .val (.long wb), .second, .val (.ref b5), .val (.int nl)] [(.int (vs.length.toInt32))]))
  refine o_iload H156 rfl at_461 rfl ?_
  refine o_icmp_t H156 at_463 (XT.ii_eq_t hln) (pt := 468) (by decide) (by decide) ?_
  refine o_aload H156 rfl rfl at_468 rfl ?_
  refine o_aload H156 rfl rfl at_470 rfl ?_
  refine o_iconst H156 (0 : Int32) rfl at_472 rfl ?_
  refine o_iload H156 rfl at_473 rfl ?_
  refine o_static H156 [(.ref a1), (.ref b5), (.int (0 : Int32)), (.int nl)] [] (rmAt l Z a0 hw a1 b5 (0 : Int32) nl vb vs (own_es wa wb) 0 cs fm h149 n0 H156.le f151 f152 f153 f154 AE (by decide) (fun q => hall _ (own_atx AV hln (by decide) q)) (S_c.ext (o_kext k150)) hcs (S_f.ext (o_kext k150)) hfm) (w112 hw) (w113 hw) (w89 hw) (w114 hw) (by decide) (lenOf pd20 rfl) rfl rfl (by decide) (Nat.le_of_ble_eq_true rfl) (by decide) (by decide) at_475 rfl ?_
  intro T157 v157 h157 H157 q157
  obtain ⟨rfl, rfl⟩ := q157
  show oG p e below s n0 _ _ _ (T157.setTop (mkF m 478 #[.val (.int p1), .val (.long p2), .second, .val (.long p3), .second, .val (.int kl), .val (.ref bb), .val (.ref a1), .val (.int l1), .val (.int l2), .val (.long wa), .second, .val (.long wb), .second, .val (.ref b5), .val (.int nl)] [(.int (1 : Int32))]))
  refine o_if_f H157 at_478 (by decide) rfl ?_
  refine o_aload H157 rfl rfl at_481 rfl ?_
  refine o_aload H157 rfl rfl at_483 rfl ?_
  refine o_iconst H157 (1 : Int32) rfl at_485 rfl ?_
  refine o_iload H157 rfl at_486 rfl ?_
  refine o_static H157 [(.ref a1), (.ref b5), (.int (1 : Int32)), (.int nl)] [] (rmAt l Z a0 hw a1 b5 (1 : Int32) nl vb vs (own_es wa wb) 1 cs fm h149 n0 H157.le f151 f152 f153 f154 AE (by decide) (fun q => hall _ (own_atx AV hln (by decide) q)) (S_c.ext (o_kext k150)) hcs (S_f.ext (o_kext k150)) hfm) (w112 hw) (w113 hw) (w89 hw) (w114 hw) (by decide) (lenOf pd20 rfl) rfl rfl (by decide) (Nat.le_of_ble_eq_true rfl) (by decide) (by decide) at_488 rfl ?_
  intro T158 v158 h158 H158 q158
  obtain ⟨rfl, rfl⟩ := q158
  show oG p e below s n0 _ _ _ (T158.setTop (mkF m 491 #[.val (.int p1), .val (.long p2), .second, .val (.long p3), .second, .val (.int kl), .val (.ref bb), .val (.ref a1), .val (.int l1), .val (.int l2), .val (.long wa), .second, .val (.long wb), .second, .val (.ref b5), .val (.int nl)] [(.int (1 : Int32))]))
  refine o_if_f H158 at_491 (by decide) rfl ?_
  refine o_aload H158 rfl rfl at_494 rfl ?_
  refine o_aload H158 rfl rfl at_496 rfl ?_
  refine o_iconst H158 (2 : Int32) rfl at_498 rfl ?_
  refine o_iload H158 rfl at_499 rfl ?_
  refine o_static H158 [(.ref a1), (.ref b5), (.int (2 : Int32)), (.int nl)] [] (rmAt l Z a0 hw a1 b5 (2 : Int32) nl vb vs (own_es wa wb) 2 cs fm h149 n0 H158.le f151 f152 f153 f154 AE (by decide) (fun q => hall _ (own_atx AV hln (by decide) q)) (S_c.ext (o_kext k150)) hcs (S_f.ext (o_kext k150)) hfm) (w112 hw) (w113 hw) (w89 hw) (w114 hw) (by decide) (lenOf pd20 rfl) rfl rfl (by decide) (Nat.le_of_ble_eq_true rfl) (by decide) (by decide) at_501 rfl ?_
  intro T159 v159 h159 H159 q159
  obtain ⟨rfl, rfl⟩ := q159
  show oG p e below s n0 _ _ _ (T159.setTop (mkF m 504 #[.val (.int p1), .val (.long p2), .second, .val (.long p3), .second, .val (.int kl), .val (.ref bb), .val (.ref a1), .val (.int l1), .val (.int l2), .val (.long wa), .second, .val (.long wb), .second, .val (.ref b5), .val (.int nl)] [(.int (1 : Int32))]))
  refine o_if_f H159 at_504 (by decide) rfl ?_
  refine o_aload H159 rfl rfl at_507 rfl ?_
  refine o_aload H159 rfl rfl at_509 rfl ?_
  refine o_iconst H159 (3 : Int32) rfl at_511 rfl ?_
  refine o_iload H159 rfl at_512 rfl ?_
  refine o_static H159 [(.ref a1), (.ref b5), (.int (3 : Int32)), (.int nl)] [] (rmAt l Z a0 hw a1 b5 (3 : Int32) nl vb vs (own_es wa wb) 3 cs fm h149 n0 H159.le f151 f152 f153 f154 AE (by decide) (fun q => hall _ (own_atx AV hln (by decide) q)) (S_c.ext (o_kext k150)) hcs (S_f.ext (o_kext k150)) hfm) (w112 hw) (w113 hw) (w89 hw) (w114 hw) (by decide) (lenOf pd20 rfl) rfl rfl (by decide) (Nat.le_of_ble_eq_true rfl) (by decide) (by decide) at_514 rfl ?_
  intro T160 v160 h160 H160 q160
  obtain ⟨rfl, rfl⟩ := q160
  show oG p e below s n0 _ _ _ (T160.setTop (mkF m 517 #[.val (.int p1), .val (.long p2), .second, .val (.long p3), .second, .val (.int kl), .val (.ref bb), .val (.ref a1), .val (.int l1), .val (.int l2), .val (.long wa), .second, .val (.long wb), .second, .val (.ref b5), .val (.int nl)] [(.int (1 : Int32))]))
  refine o_if_f H160 at_517 (by decide) rfl ?_
  refine o_aload H160 rfl rfl at_520 rfl ?_
  refine o_aload H160 rfl rfl at_522 rfl ?_
  refine o_iconst H160 (4 : Int32) rfl at_524 rfl ?_
  refine o_iload H160 rfl at_525 rfl ?_
  refine o_static H160 [(.ref a1), (.ref b5), (.int (4 : Int32)), (.int nl)] [] (rmAt l Z a0 hw a1 b5 (4 : Int32) nl vb vs (own_es wa wb) 4 cs fm h149 n0 H160.le f151 f152 f153 f154 AE (by decide) (fun q => hall _ (own_atx AV hln (by decide) q)) (S_c.ext (o_kext k150)) hcs (S_f.ext (o_kext k150)) hfm) (w112 hw) (w113 hw) (w89 hw) (w114 hw) (by decide) (lenOf pd20 rfl) rfl rfl (by decide) (Nat.le_of_ble_eq_true rfl) (by decide) (by decide) at_527 rfl ?_
  intro T161 v161 h161 H161 q161
  obtain ⟨rfl, rfl⟩ := q161
  show oG p e below s n0 _ _ _ (T161.setTop (mkF m 530 #[.val (.int p1), .val (.long p2), .second, .val (.long p3), .second, .val (.int kl), .val (.ref bb), .val (.ref a1), .val (.int l1), .val (.int l2), .val (.long wa), .second, .val (.long wb), .second, .val (.ref b5), .val (.int nl)] [(.int (1 : Int32))]))
  refine o_if_f H161 at_530 (by decide) rfl ?_
  refine o_aload H161 rfl rfl at_533 rfl ?_
  refine o_aload H161 rfl rfl at_535 rfl ?_
  refine o_iconst H161 (5 : Int32) rfl at_537 rfl ?_
  refine o_iload H161 rfl at_538 rfl ?_
  refine o_static H161 [(.ref a1), (.ref b5), (.int (5 : Int32)), (.int nl)] [] (rmAt l Z a0 hw a1 b5 (5 : Int32) nl vb vs (own_es wa wb) 5 cs fm h149 n0 H161.le f151 f152 f153 f154 AE (by decide) (fun q => hall _ (own_atx AV hln (by decide) q)) (S_c.ext (o_kext k150)) hcs (S_f.ext (o_kext k150)) hfm) (w112 hw) (w113 hw) (w89 hw) (w114 hw) (by decide) (lenOf pd20 rfl) rfl rfl (by decide) (Nat.le_of_ble_eq_true rfl) (by decide) (by decide) at_540 rfl ?_
  intro T162 v162 h162 H162 q162
  obtain ⟨rfl, rfl⟩ := q162
  show oG p e below s n0 _ _ _ (T162.setTop (mkF m 543 #[.val (.int p1), .val (.long p2), .second, .val (.long p3), .second, .val (.int kl), .val (.ref bb), .val (.ref a1), .val (.int l1), .val (.int l2), .val (.long wa), .second, .val (.long wb), .second, .val (.ref b5), .val (.int nl)] [(.int (1 : Int32))]))
  refine o_if_f H162 at_543 (by decide) rfl ?_
  refine o_aload H162 rfl rfl at_546 rfl ?_
  refine o_aload H162 rfl rfl at_548 rfl ?_
  refine o_bipush H162 (6 : Int32) rfl at_550 rfl ?_
  refine o_iload H162 rfl at_552 rfl ?_
  refine o_static H162 [(.ref a1), (.ref b5), (.int (6 : Int32)), (.int nl)] [] (rmAt l Z a0 hw a1 b5 (6 : Int32) nl vb vs (own_es wa wb) 6 cs fm h149 n0 H162.le f151 f152 f153 f154 AE (by decide) (fun q => hall _ (own_atx AV hln (by decide) q)) (S_c.ext (o_kext k150)) hcs (S_f.ext (o_kext k150)) hfm) (w112 hw) (w113 hw) (w89 hw) (w114 hw) (by decide) (lenOf pd20 rfl) rfl rfl (by decide) (Nat.le_of_ble_eq_true rfl) (by decide) (by decide) at_554 rfl ?_
  intro T163 v163 h163 H163 q163
  obtain ⟨rfl, rfl⟩ := q163
  show oG p e below s n0 _ _ _ (T163.setTop (mkF m 557 #[.val (.int p1), .val (.long p2), .second, .val (.long p3), .second, .val (.int kl), .val (.ref bb), .val (.ref a1), .val (.int l1), .val (.int l2), .val (.long wa), .second, .val (.long wb), .second, .val (.ref b5), .val (.int nl)] [(.int (1 : Int32))]))
  refine o_if_f H163 at_557 (by decide) rfl ?_
  refine o_aload H163 rfl rfl at_560 rfl ?_
  refine o_aload H163 rfl rfl at_562 rfl ?_
  refine o_bipush H163 (7 : Int32) rfl at_564 rfl ?_
  refine o_iload H163 rfl at_566 rfl ?_
  refine o_static H163 [(.ref a1), (.ref b5), (.int (7 : Int32)), (.int nl)] [] (rmAt l Z a0 hw a1 b5 (7 : Int32) nl vb vs (own_es wa wb) 7 cs fm h149 n0 H163.le f151 f152 f153 f154 AE (by decide) (fun q => hall _ (own_atx AV hln (by decide) q)) (S_c.ext (o_kext k150)) hcs (S_f.ext (o_kext k150)) hfm) (w112 hw) (w113 hw) (w89 hw) (w114 hw) (by decide) (lenOf pd20 rfl) rfl rfl (by decide) (Nat.le_of_ble_eq_true rfl) (by decide) (by decide) at_568 rfl ?_
  intro T164 v164 h164 H164 q164
  obtain ⟨rfl, rfl⟩ := q164
  show oG p e below s n0 _ _ _ (T164.setTop (mkF m 571 #[.val (.int p1), .val (.long p2), .second, .val (.long p3), .second, .val (.int kl), .val (.ref bb), .val (.ref a1), .val (.int l1), .val (.int l2), .val (.long wa), .second, .val (.long wb), .second, .val (.ref b5), .val (.int nl)] [(.int (1 : Int32))]))
  refine o_if_f H164 at_571 (by decide) rfl ?_
  refine o_aload H164 rfl rfl at_574 rfl ?_
  refine o_aload H164 rfl rfl at_576 rfl ?_
  refine o_bipush H164 (8 : Int32) rfl at_578 rfl ?_
  refine o_iload H164 rfl at_580 rfl ?_
  refine o_static H164 [(.ref a1), (.ref b5), (.int (8 : Int32)), (.int nl)] [] (rmAt l Z a0 hw a1 b5 (8 : Int32) nl vb vs (own_es wa wb) 8 cs fm h149 n0 H164.le f151 f152 f153 f154 AE (by decide) (fun q => hall _ (own_atx AV hln (by decide) q)) (S_c.ext (o_kext k150)) hcs (S_f.ext (o_kext k150)) hfm) (w112 hw) (w113 hw) (w89 hw) (w114 hw) (by decide) (lenOf pd20 rfl) rfl rfl (by decide) (Nat.le_of_ble_eq_true rfl) (by decide) (by decide) at_582 rfl ?_
  intro T165 v165 h165 H165 q165
  obtain ⟨rfl, rfl⟩ := q165
  show oG p e below s n0 _ _ _ (T165.setTop (mkF m 585 #[.val (.int p1), .val (.long p2), .second, .val (.long p3), .second, .val (.int kl), .val (.ref bb), .val (.ref a1), .val (.int l1), .val (.int l2), .val (.long wa), .second, .val (.long wb), .second, .val (.ref b5), .val (.int nl)] [(.int (1 : Int32))]))
  refine o_if_f H165 at_585 (by decide) rfl ?_
  refine o_aload H165 rfl rfl at_588 rfl ?_
  refine o_aload H165 rfl rfl at_590 rfl ?_
  refine o_bipush H165 (9 : Int32) rfl at_592 rfl ?_
  refine o_iload H165 rfl at_594 rfl ?_
  refine o_static H165 [(.ref a1), (.ref b5), (.int (9 : Int32)), (.int nl)] [] (rmAt l Z a0 hw a1 b5 (9 : Int32) nl vb vs (own_es wa wb) 9 cs fm h149 n0 H165.le f151 f152 f153 f154 AE (by decide) (fun q => hall _ (own_atx AV hln (by decide) q)) (S_c.ext (o_kext k150)) hcs (S_f.ext (o_kext k150)) hfm) (w112 hw) (w113 hw) (w89 hw) (w114 hw) (by decide) (lenOf pd20 rfl) rfl rfl (by decide) (Nat.le_of_ble_eq_true rfl) (by decide) (by decide) at_596 rfl ?_
  intro T166 v166 h166 H166 q166
  obtain ⟨rfl, rfl⟩ := q166
  show oG p e below s n0 _ _ _ (T166.setTop (mkF m 599 #[.val (.int p1), .val (.long p2), .second, .val (.long p3), .second, .val (.int kl), .val (.ref bb), .val (.ref a1), .val (.int l1), .val (.int l2), .val (.long wa), .second, .val (.long wb), .second, .val (.ref b5), .val (.int nl)] [(.int (1 : Int32))]))
  refine o_if_f H166 at_599 (by decide) rfl ?_
  refine o_aload H166 rfl rfl at_602 rfl ?_
  refine o_aload H166 rfl rfl at_604 rfl ?_
  refine o_bipush H166 (10 : Int32) rfl at_606 rfl ?_
  refine o_iload H166 rfl at_608 rfl ?_
  refine o_static H166 [(.ref a1), (.ref b5), (.int (10 : Int32)), (.int nl)] [] (rmAt l Z a0 hw a1 b5 (10 : Int32) nl vb vs (own_es wa wb) 10 cs fm h149 n0 H166.le f151 f152 f153 f154 AE (by decide) (fun q => hall _ (own_atx AV hln (by decide) q)) (S_c.ext (o_kext k150)) hcs (S_f.ext (o_kext k150)) hfm) (w112 hw) (w113 hw) (w89 hw) (w114 hw) (by decide) (lenOf pd20 rfl) rfl rfl (by decide) (Nat.le_of_ble_eq_true rfl) (by decide) (by decide) at_610 rfl ?_
  intro T167 v167 h167 H167 q167
  obtain ⟨rfl, rfl⟩ := q167
  show oG p e below s n0 _ _ _ (T167.setTop (mkF m 613 #[.val (.int p1), .val (.long p2), .second, .val (.long p3), .second, .val (.int kl), .val (.ref bb), .val (.ref a1), .val (.int l1), .val (.int l2), .val (.long wa), .second, .val (.long wb), .second, .val (.ref b5), .val (.int nl)] [(.int (1 : Int32))]))
  refine o_if_f H167 at_613 (by decide) rfl ?_
  refine o_aload H167 rfl rfl at_616 rfl ?_
  refine o_aload H167 rfl rfl at_618 rfl ?_
  refine o_bipush H167 (11 : Int32) rfl at_620 rfl ?_
  refine o_iload H167 rfl at_622 rfl ?_
  refine o_static H167 [(.ref a1), (.ref b5), (.int (11 : Int32)), (.int nl)] [] (rmAt l Z a0 hw a1 b5 (11 : Int32) nl vb vs (own_es wa wb) 11 cs fm h149 n0 H167.le f151 f152 f153 f154 AE (by decide) (fun q => hall _ (own_atx AV hln (by decide) q)) (S_c.ext (o_kext k150)) hcs (S_f.ext (o_kext k150)) hfm) (w112 hw) (w113 hw) (w89 hw) (w114 hw) (by decide) (lenOf pd20 rfl) rfl rfl (by decide) (Nat.le_of_ble_eq_true rfl) (by decide) (by decide) at_624 rfl ?_
  intro T168 v168 h168 H168 q168
  obtain ⟨rfl, rfl⟩ := q168
  show oG p e below s n0 _ _ _ (T168.setTop (mkF m 627 #[.val (.int p1), .val (.long p2), .second, .val (.long p3), .second, .val (.int kl), .val (.ref bb), .val (.ref a1), .val (.int l1), .val (.int l2), .val (.long wa), .second, .val (.long wb), .second, .val (.ref b5), .val (.int nl)] [(.int (1 : Int32))]))
  refine o_if_f H168 at_627 (by decide) rfl ?_
  refine o_aload H168 rfl rfl at_630 rfl ?_
  refine o_aload H168 rfl rfl at_632 rfl ?_
  refine o_bipush H168 (12 : Int32) rfl at_634 rfl ?_
  refine o_iload H168 rfl at_636 rfl ?_
  refine o_static H168 [(.ref a1), (.ref b5), (.int (12 : Int32)), (.int nl)] [] (rmAt l Z a0 hw a1 b5 (12 : Int32) nl vb vs (own_es wa wb) 12 cs fm h149 n0 H168.le f151 f152 f153 f154 AE (by decide) (fun q => hall _ (own_atx AV hln (by decide) q)) (S_c.ext (o_kext k150)) hcs (S_f.ext (o_kext k150)) hfm) (w112 hw) (w113 hw) (w89 hw) (w114 hw) (by decide) (lenOf pd20 rfl) rfl rfl (by decide) (Nat.le_of_ble_eq_true rfl) (by decide) (by decide) at_638 rfl ?_
  intro T169 v169 h169 H169 q169
  obtain ⟨rfl, rfl⟩ := q169
  show oG p e below s n0 _ _ _ (T169.setTop (mkF m 641 #[.val (.int p1), .val (.long p2), .second, .val (.long p3), .second, .val (.int kl), .val (.ref bb), .val (.ref a1), .val (.int l1), .val (.int l2), .val (.long wa), .second, .val (.long wb), .second, .val (.ref b5), .val (.int nl)] [(.int (1 : Int32))]))
  refine o_if_f H169 at_641 (by decide) rfl ?_
  refine o_aload H169 rfl rfl at_644 rfl ?_
  refine o_aload H169 rfl rfl at_646 rfl ?_
  refine o_bipush H169 (13 : Int32) rfl at_648 rfl ?_
  refine o_iload H169 rfl at_650 rfl ?_
  refine o_static H169 [(.ref a1), (.ref b5), (.int (13 : Int32)), (.int nl)] [] (rmAt l Z a0 hw a1 b5 (13 : Int32) nl vb vs (own_es wa wb) 13 cs fm h149 n0 H169.le f151 f152 f153 f154 AE (by decide) (fun q => hall _ (own_atx AV hln (by decide) q)) (S_c.ext (o_kext k150)) hcs (S_f.ext (o_kext k150)) hfm) (w112 hw) (w113 hw) (w89 hw) (w114 hw) (by decide) (lenOf pd20 rfl) rfl rfl (by decide) (Nat.le_of_ble_eq_true rfl) (by decide) (by decide) at_652 rfl ?_
  intro T170 v170 h170 H170 q170
  obtain ⟨rfl, rfl⟩ := q170
  show oG p e below s n0 _ _ _ (T170.setTop (mkF m 655 #[.val (.int p1), .val (.long p2), .second, .val (.long p3), .second, .val (.int kl), .val (.ref bb), .val (.ref a1), .val (.int l1), .val (.int l2), .val (.long wa), .second, .val (.long wb), .second, .val (.ref b5), .val (.int nl)] [(.int (1 : Int32))]))
  refine o_if_f H170 at_655 (by decide) rfl ?_
  refine o_aload H170 rfl rfl at_658 rfl ?_
  refine o_aload H170 rfl rfl at_660 rfl ?_
  refine o_bipush H170 (14 : Int32) rfl at_662 rfl ?_
  refine o_iload H170 rfl at_664 rfl ?_
  refine o_static H170 [(.ref a1), (.ref b5), (.int (14 : Int32)), (.int nl)] [] (rmAt l Z a0 hw a1 b5 (14 : Int32) nl vb vs (own_es wa wb) 14 cs fm h149 n0 H170.le f151 f152 f153 f154 AE (by decide) (fun q => hall _ (own_atx AV hln (by decide) q)) (S_c.ext (o_kext k150)) hcs (S_f.ext (o_kext k150)) hfm) (w112 hw) (w113 hw) (w89 hw) (w114 hw) (by decide) (lenOf pd20 rfl) rfl rfl (by decide) (Nat.le_of_ble_eq_true rfl) (by decide) (by decide) at_666 rfl ?_
  intro T171 v171 h171 H171 q171
  obtain ⟨rfl, rfl⟩ := q171
  show oG p e below s n0 _ _ _ (T171.setTop (mkF m 669 #[.val (.int p1), .val (.long p2), .second, .val (.long p3), .second, .val (.int kl), .val (.ref bb), .val (.ref a1), .val (.int l1), .val (.int l2), .val (.long wa), .second, .val (.long wb), .second, .val (.ref b5), .val (.int nl)] [(.int (1 : Int32))]))
  refine o_if_f H171 at_669 (by decide) rfl ?_
  refine o_aload H171 rfl rfl at_672 rfl ?_
  refine o_aload H171 rfl rfl at_674 rfl ?_
  refine o_bipush H171 (15 : Int32) rfl at_676 rfl ?_
  refine o_iload H171 rfl at_678 rfl ?_
  refine o_static H171 [(.ref a1), (.ref b5), (.int (15 : Int32)), (.int nl)] [] (rmAt l Z a0 hw a1 b5 (15 : Int32) nl vb vs (own_es wa wb) 15 cs fm h149 n0 H171.le f151 f152 f153 f154 AE (by decide) (fun q => hall _ (own_atx AV hln (by decide) q)) (S_c.ext (o_kext k150)) hcs (S_f.ext (o_kext k150)) hfm) (w112 hw) (w113 hw) (w89 hw) (w114 hw) (by decide) (lenOf pd20 rfl) rfl rfl (by decide) (Nat.le_of_ble_eq_true rfl) (by decide) (by decide) at_680 rfl ?_
  intro T172 v172 h172 H172 q172
  obtain ⟨rfl, rfl⟩ := q172
  show oG p e below s n0 _ _ _ (T172.setTop (mkF m 683 #[.val (.int p1), .val (.long p2), .second, .val (.long p3), .second, .val (.int kl), .val (.ref bb), .val (.ref a1), .val (.int l1), .val (.int l2), .val (.long wa), .second, .val (.long wb), .second, .val (.ref b5), .val (.int nl)] [(.int (1 : Int32))]))
  refine o_if_f H172 at_683 (by decide) rfl ?_
  refine o_iconst H172 (1 : Int32) rfl at_686 rfl ?_
  refine o_goto H172 at_687 (pt := 691) (by decide) (by decide) ?_
  exact o_nreturn H172 .boolean rfl (by simp) at_691 (by decide) (by decide) rfl
set_option maxRecDepth 65536 in
set_option maxHeartbeats 40000000 in
theorem rmL_0 (l : Launch) (Z : State) (a0 : Array Value) (hw : ∀ d ∈ tables_1, d.before a0 Z = true) (p1 : Int32) (p2 p3 : Int64) (al : Addr) (cs : Int32) (fm : Value) (h0 : Heap) (n0 : Nat) (Z0 : n0 ≤ h0.size) (S_a : Sta Z h0 "com/example/encase/encase/codec/Base32" "ALPHABET" "[C" (.ref al)) (AL : oA .char Z h0 al own_alist) (S_c : Sta Z h0 "java/lang/String" "COMPACT_STRINGS" "Z" (.int cs)) (hcs : ¬ cs = 0) (S_f : Sta Z h0 "jdk/internal/util/Preconditions" "SIOOBE_FORMATTER" "Ljava/util/function/BiFunction;" fm) (hfm : fm.isRef = true) (p : Program) (e : Env) (s : State) (m : MethodId) (below : List Frame) (meth : Method) (c : Code) (T : State) (H : oH p l e room_1 s m #[.int p1, .long p2, .long p3] below meth c code maxLocals x ret Z n0 T h0 0 0) :
    oG p e below s n0 24 256 (fun v h => v = some (.int 1)) (T.setTop (mkF m 9 #[.val (.int p1), .val (.long p2), .second, .val (.long p3), .second, .val (.int (0 : Int32)), .unset, .unset, .unset, .unset, .unset, .unset, .unset, .unset, .unset, .unset] [])) := by
  refine o_iload H rfl at_9 rfl ?_
  refine o_newarr (aty := .byte) H 0 0 (w1 hw) (by decide) (by decide) (by decide) at_11 rfl (by decide) (by decide) ?_
  intro T1 h1 b1 g1 H1 E1 A1
  have z1 : n0 ≤ b1 := by rw [g1]; exact H.le
  have y1 : h0.size ≤ b1 := by rw [g1]; exact (Keep.refl h0 []).1
  have k2 := (Keep.refl h0 []).ext E1
  have f3 : oA .byte Z h1 b1 [] := A1
  refine o_astore H1 (L' := #[.val (.int p1), .val (.long p2), .second, .val (.long p3), .second, .val (.int (0 : Int32)), .val (.ref b1), .unset, .unset, .unset, .unset, .unset, .unset, .unset, .unset, .unset]) rfl rfl at_13 rfl ?_
  refine o_iload H1 rfl at_15 rfl ?_
  refine o_if_t H1 at_17 (by decide) (pt := 30) (by decide) (by decide) ?_
  refine o_iload H1 rfl at_30 rfl ?_
  refine o_iconst H1 (1 : Int32) rfl at_32 rfl ?_
  refine o_icmp_t H1 at_33 (by decide) (pt := 46) (by decide) (by decide) ?_
  refine o_iload H1 rfl at_46 rfl ?_
  refine o_iconst H1 (2 : Int32) rfl at_48 rfl ?_
  refine o_icmp_t H1 at_49 (by decide) (pt := 62) (by decide) (by decide) ?_
  refine o_iload H1 rfl at_62 rfl ?_
  refine o_iconst H1 (3 : Int32) rfl at_64 rfl ?_
  refine o_icmp_t H1 at_65 (by decide) (pt := 78) (by decide) (by decide) ?_
  refine o_iload H1 rfl at_78 rfl ?_
  refine o_iconst H1 (4 : Int32) rfl at_80 rfl ?_
  refine o_icmp_t H1 at_81 (by decide) (pt := 91) (by decide) (by decide) ?_
  refine o_iload H1 rfl at_91 rfl ?_
  refine o_iconst H1 (5 : Int32) rfl at_93 rfl ?_
  refine o_icmp_t H1 at_94 (by decide) (pt := 107) (by decide) (by decide) ?_
  refine o_iload H1 rfl at_107 rfl ?_
  refine o_bipush H1 (6 : Int32) rfl at_109 rfl ?_
  refine o_icmp_t H1 at_111 (by decide) (pt := 125) (by decide) (by decide) ?_
  refine o_iload H1 rfl at_125 rfl ?_
  refine o_bipush H1 (7 : Int32) rfl at_127 rfl ?_
  refine o_icmp_t H1 at_129 (by decide) (pt := 143) (by decide) (by decide) ?_
  refine o_iload H1 rfl at_143 rfl ?_
  refine o_bipush H1 (8 : Int32) rfl at_145 rfl ?_
  refine o_icmp_t H1 at_147 (by decide) (pt := 161) (by decide) (by decide) ?_
  refine o_iload H1 rfl at_161 rfl ?_
  refine o_bipush H1 (9 : Int32) rfl at_163 rfl ?_
  refine o_icmp_t H1 at_165 (by decide) (pt := 176) (by decide) (by decide) ?_
  refine o_aload H1 rfl rfl at_176 rfl ?_
  refine o_static H1 [(.ref b1)] [] (rm1_0 l Z a0 hw b1 al cs  h1 n0 H1.le f3 (S_a.ext (o_kext k2)) (AL.ext (o_kext k2)) (S_c.ext (o_kext k2)) hcs) (w2 hw) (w3 hw) (w4 hw) (w5 hw) (by decide) (lenOf pd1 rfl) rfl rfl (by decide) (Nat.le_of_ble_eq_true rfl) (by decide) (by decide) at_178 rfl ?_
  intro T4 v4 h4 H4 q4
  obtain ⟨r4, b4, rfl, K4, X4, FC4, FV4, A4⟩ := q4
  have k5 := k2.trans K4 all0
  show oG p e below s n0 _ _ _ (T4.setTop (mkF m 181 #[.val (.int p1), .val (.long p2), .second, .val (.long p3), .second, .val (.int (0 : Int32)), .val (.ref b1), .unset, .unset, .unset, .unset, .unset, .unset, .unset, .unset, .unset] [(.ref r4)]))
  exact rmT l Z a0 hw p1 p2 p3 (0 : Int32) (0 : Int32) (0 : Int32) b1 r4 b4 (own_E_0 p2 p3) cs fm h4 n0 X4 FV4 FC4 A4 (S_c.ext (o_kext k5)) hcs (S_f.ext (o_kext k5)) hfm (by decide) (by decide) (show (0 : Nat).toInt32 = _ by decide) (own_all_0 p2 p3) p e s m below meth c T4 (H4.more (by decide) (by decide))
set_option maxRecDepth 65536 in
set_option maxHeartbeats 40000000 in
theorem rmL_1 (l : Launch) (Z : State) (a0 : Array Value) (hw : ∀ d ∈ tables_1, d.before a0 Z = true) (p1 : Int32) (p2 p3 : Int64) (al : Addr) (cs : Int32) (fm : Value) (h0 : Heap) (n0 : Nat) (Z0 : n0 ≤ h0.size) (S_a : Sta Z h0 "com/example/encase/encase/codec/Base32" "ALPHABET" "[C" (.ref al)) (AL : oA .char Z h0 al own_alist) (S_c : Sta Z h0 "java/lang/String" "COMPACT_STRINGS" "Z" (.int cs)) (hcs : ¬ cs = 0) (S_f : Sta Z h0 "jdk/internal/util/Preconditions" "SIOOBE_FORMATTER" "Ljava/util/function/BiFunction;" fm) (hfm : fm.isRef = true) (p : Program) (e : Env) (s : State) (m : MethodId) (below : List Frame) (meth : Method) (c : Code) (T : State) (H : oH p l e room_1 s m #[.int p1, .long p2, .long p3] below meth c code maxLocals x ret Z n0 T h0 0 0) :
    oG p e below s n0 24 256 (fun v h => v = some (.int 1)) (T.setTop (mkF m 9 #[.val (.int p1), .val (.long p2), .second, .val (.long p3), .second, .val (.int (1 : Int32)), .unset, .unset, .unset, .unset, .unset, .unset, .unset, .unset, .unset, .unset] [])) := by
  refine o_iload H rfl at_9 rfl ?_
  refine o_newarr (aty := .byte) H 1 1 (w1 hw) (by decide) (by decide) (by decide) at_11 rfl (by decide) (by decide) ?_
  intro T1 h1 b1 g1 H1 E1 A1
  have z1 : n0 ≤ b1 := by rw [g1]; exact H.le
  have y1 : h0.size ≤ b1 := by rw [g1]; exact (Keep.refl h0 []).1
  have k2 := (Keep.refl h0 []).ext E1
  have f3 : oA .byte Z h1 b1 [(.int 0)] := A1
  refine o_astore H1 (L' := #[.val (.int p1), .val (.long p2), .second, .val (.long p3), .second, .val (.int (1 : Int32)), .val (.ref b1), .unset, .unset, .unset, .unset, .unset, .unset, .unset, .unset, .unset]) rfl rfl at_13 rfl ?_
  refine o_iload H1 rfl at_15 rfl ?_
  refine o_if_f H1 at_17 (by decide) rfl ?_
  refine o_aload H1 rfl rfl at_20 rfl ?_
  refine o_iconst H1 (0 : Int32) rfl at_22 rfl ?_
  refine o_lloadN H1 rfl at_23 rfl ?_
  refine o_bipush H1 (32 : Int32) rfl at_24 rfl ?_
  refine o_lushr H1 at_26 rfl ?_
  refine o_l2i H1 at_27 rfl ?_
  refine o_i2b H1 at_28 rfl ?_
  refine o_bastore H1 0 f3 (by decide) (Nat.le_of_ble_eq_true rfl) z1 at_29 rfl ?_
  intro T4 h4 H4 W4 A4
  have k5 := k2.wr W4 (Or.inr y1)
  have f6 : oA .byte Z h4 b1 [(.int (own_b0 p2 p3))] := A4
  refine o_iload H4 rfl at_30 rfl ?_
  refine o_iconst H4 (1 : Int32) rfl at_32 rfl ?_
  refine o_icmp_t H4 at_33 (by decide) (pt := 46) (by decide) (by decide) ?_
  refine o_iload H4 rfl at_46 rfl ?_
  refine o_iconst H4 (2 : Int32) rfl at_48 rfl ?_
  refine o_icmp_t H4 at_49 (by decide) (pt := 62) (by decide) (by decide) ?_
  refine o_iload H4 rfl at_62 rfl ?_
  refine o_iconst H4 (3 : Int32) rfl at_64 rfl ?_
  refine o_icmp_t H4 at_65 (by decide) (pt := 78) (by decide) (by decide) ?_
  refine o_iload H4 rfl at_78 rfl ?_
  refine o_iconst H4 (4 : Int32) rfl at_80 rfl ?_
  refine o_icmp_t H4 at_81 (by decide) (pt := 91) (by decide) (by decide) ?_
  refine o_iload H4 rfl at_91 rfl ?_
  refine o_iconst H4 (5 : Int32) rfl at_93 rfl ?_
  refine o_icmp_t H4 at_94 (by decide) (pt := 107) (by decide) (by decide) ?_
  refine o_iload H4 rfl at_107 rfl ?_
  refine o_bipush H4 (6 : Int32) rfl at_109 rfl ?_
  refine o_icmp_t H4 at_111 (by decide) (pt := 125) (by decide) (by decide) ?_
  refine o_iload H4 rfl at_125 rfl ?_
  refine o_bipush H4 (7 : Int32) rfl at_127 rfl ?_
  refine o_icmp_t H4 at_129 (by decide) (pt := 143) (by decide) (by decide) ?_
  refine o_iload H4 rfl at_143 rfl ?_
  refine o_bipush H4 (8 : Int32) rfl at_145 rfl ?_
  refine o_icmp_t H4 at_147 (by decide) (pt := 161) (by decide) (by decide) ?_
  refine o_iload H4 rfl at_161 rfl ?_
  refine o_bipush H4 (9 : Int32) rfl at_163 rfl ?_
  refine o_icmp_t H4 at_165 (by decide) (pt := 176) (by decide) (by decide) ?_
  refine o_aload H4 rfl rfl at_176 rfl ?_
  refine o_static H4 [(.ref b1)] [] (rm1_1 l Z a0 hw b1 al cs (own_b0 p2 p3) h4 n0 H4.le f6 (S_a.ext (o_kext k5)) (AL.ext (o_kext k5)) (S_c.ext (o_kext k5)) hcs) (w2 hw) (w3 hw) (w4 hw) (w5 hw) (by decide) (lenOf pd1 rfl) rfl rfl (by decide) (Nat.le_of_ble_eq_true rfl) (by decide) (by decide) at_178 rfl ?_
  intro T7 v7 h7 H7 q7
  obtain ⟨r7, b7, rfl, K7, X7, FC7, FV7, A7⟩ := q7
  have k8 := k5.trans K7 all0
  show oG p e below s n0 _ _ _ (T7.setTop (mkF m 181 #[.val (.int p1), .val (.long p2), .second, .val (.long p3), .second, .val (.int (1 : Int32)), .val (.ref b1), .unset, .unset, .unset, .unset, .unset, .unset, .unset, .unset, .unset] [(.ref r7)]))
  exact rmT l Z a0 hw p1 p2 p3 (1 : Int32) (1 : Int32) (0 : Int32) b1 r7 b7 (own_E_1 p2 p3) cs fm h7 n0 X7 FV7 FC7 A7 (S_c.ext (o_kext k8)) hcs (S_f.ext (o_kext k8)) hfm (by decide) (by decide) (show (2 : Nat).toInt32 = _ by decide) (own_all_1 p2 p3) p e s m below meth c T7 (H7.more (by decide) (by decide))
set_option maxRecDepth 65536 in
set_option maxHeartbeats 40000000 in
theorem rmL_2 (l : Launch) (Z : State) (a0 : Array Value) (hw : ∀ d ∈ tables_1, d.before a0 Z = true) (p1 : Int32) (p2 p3 : Int64) (al : Addr) (cs : Int32) (fm : Value) (h0 : Heap) (n0 : Nat) (Z0 : n0 ≤ h0.size) (S_a : Sta Z h0 "com/example/encase/encase/codec/Base32" "ALPHABET" "[C" (.ref al)) (AL : oA .char Z h0 al own_alist) (S_c : Sta Z h0 "java/lang/String" "COMPACT_STRINGS" "Z" (.int cs)) (hcs : ¬ cs = 0) (S_f : Sta Z h0 "jdk/internal/util/Preconditions" "SIOOBE_FORMATTER" "Ljava/util/function/BiFunction;" fm) (hfm : fm.isRef = true) (p : Program) (e : Env) (s : State) (m : MethodId) (below : List Frame) (meth : Method) (c : Code) (T : State) (H : oH p l e room_1 s m #[.int p1, .long p2, .long p3] below meth c code maxLocals x ret Z n0 T h0 0 0) :
    oG p e below s n0 24 256 (fun v h => v = some (.int 1)) (T.setTop (mkF m 9 #[.val (.int p1), .val (.long p2), .second, .val (.long p3), .second, .val (.int (2 : Int32)), .unset, .unset, .unset, .unset, .unset, .unset, .unset, .unset, .unset, .unset] [])) := by
  refine o_iload H rfl at_9 rfl ?_
  refine o_newarr (aty := .byte) H 2 2 (w1 hw) (by decide) (by decide) (by decide) at_11 rfl (by decide) (by decide) ?_
  intro T1 h1 b1 g1 H1 E1 A1
  have z1 : n0 ≤ b1 := by rw [g1]; exact H.le
  have y1 : h0.size ≤ b1 := by rw [g1]; exact (Keep.refl h0 []).1
  have k2 := (Keep.refl h0 []).ext E1
  have f3 : oA .byte Z h1 b1 [(.int 0), (.int 0)] := A1
  refine o_astore H1 (L' := #[.val (.int p1), .val (.long p2), .second, .val (.long p3), .second, .val (.int (2 : Int32)), .val (.ref b1), .unset, .unset, .unset, .unset, .unset, .unset, .unset, .unset, .unset]) rfl rfl at_13 rfl ?_
  refine o_iload H1 rfl at_15 rfl ?_
  refine o_if_f H1 at_17 (by decide) rfl ?_
  refine o_aload H1 rfl rfl at_20 rfl ?_
  refine o_iconst H1 (0 : Int32) rfl at_22 rfl ?_
  refine o_lloadN H1 rfl at_23 rfl ?_
  refine o_bipush H1 (32 : Int32) rfl at_24 rfl ?_
  refine o_lushr H1 at_26 rfl ?_
  refine o_l2i H1 at_27 rfl ?_
  refine o_i2b H1 at_28 rfl ?_
  refine o_bastore H1 0 f3 (by decide) (Nat.le_of_ble_eq_true rfl) z1 at_29 rfl ?_
  intro T4 h4 H4 W4 A4
  have k5 := k2.wr W4 (Or.inr y1)
  have f6 : oA .byte Z h4 b1 [(.int (own_b0 p2 p3)), (.int 0)] := A4
  refine o_iload H4 rfl at_30 rfl ?_
  refine o_iconst H4 (1 : Int32) rfl at_32 rfl ?_
  refine o_icmp_f H4 at_33 (by decide) rfl ?_
  refine o_aload H4 rfl rfl at_36 rfl ?_
  refine o_iconst H4 (1 : Int32) rfl at_38 rfl ?_
  refine o_lloadN H4 rfl at_39 rfl ?_
  refine o_bipush H4 (24 : Int32) rfl at_40 rfl ?_
  refine o_lushr H4 at_42 rfl ?_
  refine o_l2i H4 at_43 rfl ?_
  refine o_i2b H4 at_44 rfl ?_
  refine o_bastore H4 1 f6 (by decide) (Nat.le_of_ble_eq_true rfl) z1 at_45 rfl ?_
  intro T7 h7 H7 W7 A7
  have k8 := k5.wr W7 (Or.inr y1)
  have f9 : oA .byte Z h7 b1 [(.int (own_b0 p2 p3)), (.int (own_b1 p2 p3))] := A7
  refine o_iload H7 rfl at_46 rfl ?_
  refine o_iconst H7 (2 : Int32) rfl at_48 rfl ?_
  refine o_icmp_t H7 at_49 (by decide) (pt := 62) (by decide) (by decide) ?_
  refine o_iload H7 rfl at_62 rfl ?_
  refine o_iconst H7 (3 : Int32) rfl at_64 rfl ?_
  refine o_icmp_t H7 at_65 (by decide) (pt := 78) (by decide) (by decide) ?_
  refine o_iload H7 rfl at_78 rfl ?_
  refine o_iconst H7 (4 : Int32) rfl at_80 rfl ?_
  refine o_icmp_t H7 at_81 (by decide) (pt := 91) (by decide) (by decide) ?_
  refine o_iload H7 rfl at_91 rfl ?_
  refine o_iconst H7 (5 : Int32) rfl at_93 rfl ?_
  refine o_icmp_t H7 at_94 (by decide) (pt := 107) (by decide) (by decide) ?_
  refine o_iload H7 rfl at_107 rfl ?_
  refine o_bipush H7 (6 : Int32) rfl at_109 rfl ?_
  refine o_icmp_t H7 at_111 (by decide) (pt := 125) (by decide) (by decide) ?_
  refine o_iload H7 rfl at_125 rfl ?_
  refine o_bipush H7 (7 : Int32) rfl at_127 rfl ?_
  refine o_icmp_t H7 at_129 (by decide) (pt := 143) (by decide) (by decide) ?_
  refine o_iload H7 rfl at_143 rfl ?_
  refine o_bipush H7 (8 : Int32) rfl at_145 rfl ?_
  refine o_icmp_t H7 at_147 (by decide) (pt := 161) (by decide) (by decide) ?_
  refine o_iload H7 rfl at_161 rfl ?_
  refine o_bipush H7 (9 : Int32) rfl at_163 rfl ?_
  refine o_icmp_t H7 at_165 (by decide) (pt := 176) (by decide) (by decide) ?_
  refine o_aload H7 rfl rfl at_176 rfl ?_
  refine o_static H7 [(.ref b1)] [] (rm1_2 l Z a0 hw b1 al cs (own_b0 p2 p3) (own_b1 p2 p3) h7 n0 H7.le f9 (S_a.ext (o_kext k8)) (AL.ext (o_kext k8)) (S_c.ext (o_kext k8)) hcs) (w2 hw) (w3 hw) (w4 hw) (w5 hw) (by decide) (lenOf pd1 rfl) rfl rfl (by decide) (Nat.le_of_ble_eq_true rfl) (by decide) (by decide) at_178 rfl ?_
  intro T10 v10 h10 H10 q10
  obtain ⟨r10, b10, rfl, K10, X10, FC10, FV10, A10⟩ := q10
  have k11 := k8.trans K10 all0
  show oG p e below s n0 _ _ _ (T10.setTop (mkF m 181 #[.val (.int p1), .val (.long p2), .second, .val (.long p3), .second, .val (.int (2 : Int32)), .val (.ref b1), .unset, .unset, .unset, .unset, .unset, .unset, .unset, .unset, .unset] [(.ref r10)]))
  exact rmT l Z a0 hw p1 p2 p3 (2 : Int32) (2 : Int32) (0 : Int32) b1 r10 b10 (own_E_2 p2 p3) cs fm h10 n0 X10 FV10 FC10 A10 (S_c.ext (o_kext k11)) hcs (S_f.ext (o_kext k11)) hfm (by decide) (by decide) (show (4 : Nat).toInt32 = _ by decide) (own_all_2 p2 p3) p e s m below meth c T10 (H10.more (by decide) (by decide))
set_option maxRecDepth 65536 in
set_option maxHeartbeats 40000000 in
theorem rmL_3 (l : Launch) (Z : State) (a0 : Array Value) (hw : ∀ d ∈ tables_1, d.before a0 Z = true) (p1 : Int32) (p2 p3 : Int64) (al : Addr) (cs : Int32) (fm : Value) (h0 : Heap) (n0 : Nat) (Z0 : n0 ≤ h0.size) (S_a : Sta Z h0 "com/example/encase/encase/codec/Base32" "ALPHABET" "[C" (.ref al)) (AL : oA .char Z h0 al own_alist) (S_c : Sta Z h0 "java/lang/String" "COMPACT_STRINGS" "Z" (.int cs)) (hcs : ¬ cs = 0) (S_f : Sta Z h0 "jdk/internal/util/Preconditions" "SIOOBE_FORMATTER" "Ljava/util/function/BiFunction;" fm) (hfm : fm.isRef = true) (p : Program) (e : Env) (s : State) (m : MethodId) (below : List Frame) (meth : Method) (c : Code) (T : State) (H : oH p l e room_1 s m #[.int p1, .long p2, .long p3] below meth c code maxLocals x ret Z n0 T h0 0 0) :
    oG p e below s n0 24 256 (fun v h => v = some (.int 1)) (T.setTop (mkF m 9 #[.val (.int p1), .val (.long p2), .second, .val (.long p3), .second, .val (.int (3 : Int32)), .unset, .unset, .unset, .unset, .unset, .unset, .unset, .unset, .unset, .unset] [])) := by
  refine o_iload H rfl at_9 rfl ?_
  refine o_newarr (aty := .byte) H 3 3 (w1 hw) (by decide) (by decide) (by decide) at_11 rfl (by decide) (by decide) ?_
  intro T1 h1 b1 g1 H1 E1 A1
  have z1 : n0 ≤ b1 := by rw [g1]; exact H.le
  have y1 : h0.size ≤ b1 := by rw [g1]; exact (Keep.refl h0 []).1
  have k2 := (Keep.refl h0 []).ext E1
  have f3 : oA .byte Z h1 b1 [(.int 0), (.int 0), (.int 0)] := A1
  refine o_astore H1 (L' := #[.val (.int p1), .val (.long p2), .second, .val (.long p3), .second, .val (.int (3 : Int32)), .val (.ref b1), .unset, .unset, .unset, .unset, .unset, .unset, .unset, .unset, .unset]) rfl rfl at_13 rfl ?_
  refine o_iload H1 rfl at_15 rfl ?_
  refine o_if_f H1 at_17 (by decide) rfl ?_
  refine o_aload H1 rfl rfl at_20 rfl ?_
  refine o_iconst H1 (0 : Int32) rfl at_22 rfl ?_
  refine o_lloadN H1 rfl at_23 rfl ?_
  refine o_bipush H1 (32 : Int32) rfl at_24 rfl ?_
  refine o_lushr H1 at_26 rfl ?_
  refine o_l2i H1 at_27 rfl ?_
  refine o_i2b H1 at_28 rfl ?_
  refine o_bastore H1 0 f3 (by decide) (Nat.le_of_ble_eq_true rfl) z1 at_29 rfl ?_
  intro T4 h4 H4 W4 A4
  have k5 := k2.wr W4 (Or.inr y1)
  have f6 : oA .byte Z h4 b1 [(.int (own_b0 p2 p3)), (.int 0), (.int 0)] := A4
  refine o_iload H4 rfl at_30 rfl ?_
  refine o_iconst H4 (1 : Int32) rfl at_32 rfl ?_
  refine o_icmp_f H4 at_33 (by decide) rfl ?_
  refine o_aload H4 rfl rfl at_36 rfl ?_
  refine o_iconst H4 (1 : Int32) rfl at_38 rfl ?_
  refine o_lloadN H4 rfl at_39 rfl ?_
  refine o_bipush H4 (24 : Int32) rfl at_40 rfl ?_
  refine o_lushr H4 at_42 rfl ?_
  refine o_l2i H4 at_43 rfl ?_
  refine o_i2b H4 at_44 rfl ?_
  refine o_bastore H4 1 f6 (by decide) (Nat.le_of_ble_eq_true rfl) z1 at_45 rfl ?_
  intro T7 h7 H7 W7 A7
  have k8 := k5.wr W7 (Or.inr y1)
  have f9 : oA .byte Z h7 b1 [(.int (own_b0 p2 p3)), (.int (own_b1 p2 p3)), (.int 0)] := A7
  refine o_iload H7 rfl at_46 rfl ?_
  refine o_iconst H7 (2 : Int32) rfl at_48 rfl ?_
  refine o_icmp_f H7 at_49 (by decide) rfl ?_
  refine o_aload H7 rfl rfl at_52 rfl ?_
  refine o_iconst H7 (2 : Int32) rfl at_54 rfl ?_
  refine o_lloadN H7 rfl at_55 rfl ?_
  refine o_bipush H7 (16 : Int32) rfl at_56 rfl ?_
  refine o_lushr H7 at_58 rfl ?_
  refine o_l2i H7 at_59 rfl ?_
  refine o_i2b H7 at_60 rfl ?_
  refine o_bastore H7 2 f9 (by decide) (Nat.le_of_ble_eq_true rfl) z1 at_61 rfl ?_
  intro T10 h10 H10 W10 A10
  have k11 := k8.wr W10 (Or.inr y1)
  have f12 : oA .byte Z h10 b1 [(.int (own_b0 p2 p3)), (.int (own_b1 p2 p3)), (.int (own_b2 p2 p3))] := A10
  refine o_iload H10 rfl at_62 rfl ?_
  refine o_iconst H10 (3 : Int32) rfl at_64 rfl ?_
  refine o_icmp_t H10 at_65 (by decide) (pt := 78) (by decide) (by decide) ?_
  refine o_iload H10 rfl at_78 rfl ?_
  refine o_iconst H10 (4 : Int32) rfl at_80 rfl ?_
  refine o_icmp_t H10 at_81 (by decide) (pt := 91) (by decide) (by decide) ?_
  refine o_iload H10 rfl at_91 rfl ?_
  refine o_iconst H10 (5 : Int32) rfl at_93 rfl ?_
  refine o_icmp_t H10 at_94 (by decide) (pt := 107) (by decide) (by decide) ?_
  refine o_iload H10 rfl at_107 rfl ?_
  refine o_bipush H10 (6 : Int32) rfl at_109 rfl ?_
  refine o_icmp_t H10 at_111 (by decide) (pt := 125) (by decide) (by decide) ?_
  refine o_iload H10 rfl at_125 rfl ?_
  refine o_bipush H10 (7 : Int32) rfl at_127 rfl ?_
  refine o_icmp_t H10 at_129 (by decide) (pt := 143) (by decide) (by decide) ?_
  refine o_iload H10 rfl at_143 rfl ?_
  refine o_bipush H10 (8 : Int32) rfl at_145 rfl ?_
  refine o_icmp_t H10 at_147 (by decide) (pt := 161) (by decide) (by decide) ?_
  refine o_iload H10 rfl at_161 rfl ?_
  refine o_bipush H10 (9 : Int32) rfl at_163 rfl ?_
  refine o_icmp_t H10 at_165 (by decide) (pt := 176) (by decide) (by decide) ?_
  refine o_aload H10 rfl rfl at_176 rfl ?_
  refine o_static H10 [(.ref b1)] [] (rm1_3 l Z a0 hw b1 al cs (own_b0 p2 p3) (own_b1 p2 p3) (own_b2 p2 p3) h10 n0 H10.le f12 (S_a.ext (o_kext k11)) (AL.ext (o_kext k11)) (S_c.ext (o_kext k11)) hcs) (w2 hw) (w3 hw) (w4 hw) (w5 hw) (by decide) (lenOf pd1 rfl) rfl rfl (by decide) (Nat.le_of_ble_eq_true rfl) (by decide) (by decide) at_178 rfl ?_
  intro T13 v13 h13 H13 q13
  obtain ⟨r13, b13, rfl, K13, X13, FC13, FV13, A13⟩ := q13
  have k14 := k11.trans K13 all0
  show oG p e below s n0 _ _ _ (T13.setTop (mkF m 181 #[.val (.int p1), .val (.long p2), .second, .val (.long p3), .second, .val (.int (3 : Int32)), .val (.ref b1), .unset, .unset, .unset, .unset, .unset, .unset, .unset, .unset, .unset] [(.ref r13)]))
  exact rmT l Z a0 hw p1 p2 p3 (3 : Int32) (3 : Int32) (0 : Int32) b1 r13 b13 (own_E_3 p2 p3) cs fm h13 n0 X13 FV13 FC13 A13 (S_c.ext (o_kext k14)) hcs (S_f.ext (o_kext k14)) hfm (by decide) (by decide) (show (5 : Nat).toInt32 = _ by decide) (own_all_3 p2 p3) p e s m below meth c T13 (H13.more (by decide) (by decide))
set_option maxRecDepth 65536 in
set_option maxHeartbeats 40000000 in
theorem rmL_4 (l : Launch) (Z : State) (a0 : Array Value) (hw : ∀ d ∈ tables_1, d.before a0 Z = true) (p1 : Int32) (p2 p3 : Int64) (al : Addr) (cs : Int32) (fm : Value) (h0 : Heap) (n0 : Nat) (Z0 : n0 ≤ h0.size) (S_a : Sta Z h0 "com/example/encase/encase/codec/Base32" "ALPHABET" "[C" (.ref al)) (AL : oA .char Z h0 al own_alist) (S_c : Sta Z h0 "java/lang/String" "COMPACT_STRINGS" "Z" (.int cs)) (hcs : ¬ cs = 0) (S_f : Sta Z h0 "jdk/internal/util/Preconditions" "SIOOBE_FORMATTER" "Ljava/util/function/BiFunction;" fm) (hfm : fm.isRef = true) (p : Program) (e : Env) (s : State) (m : MethodId) (below : List Frame) (meth : Method) (c : Code) (T : State) (H : oH p l e room_1 s m #[.int p1, .long p2, .long p3] below meth c code maxLocals x ret Z n0 T h0 0 0) :
    oG p e below s n0 24 256 (fun v h => v = some (.int 1)) (T.setTop (mkF m 9 #[.val (.int p1), .val (.long p2), .second, .val (.long p3), .second, .val (.int (4 : Int32)), .unset, .unset, .unset, .unset, .unset, .unset, .unset, .unset, .unset, .unset] [])) := by
  refine o_iload H rfl at_9 rfl ?_
  refine o_newarr (aty := .byte) H 4 4 (w1 hw) (by decide) (by decide) (by decide) at_11 rfl (by decide) (by decide) ?_
  intro T1 h1 b1 g1 H1 E1 A1
  have z1 : n0 ≤ b1 := by rw [g1]; exact H.le
  have y1 : h0.size ≤ b1 := by rw [g1]; exact (Keep.refl h0 []).1
  have k2 := (Keep.refl h0 []).ext E1
  have f3 : oA .byte Z h1 b1 [(.int 0), (.int 0), (.int 0), (.int 0)] := A1
  refine o_astore H1 (L' := #[.val (.int p1), .val (.long p2), .second, .val (.long p3), .second, .val (.int (4 : Int32)), .val (.ref b1), .unset, .unset, .unset, .unset, .unset, .unset, .unset, .unset, .unset]) rfl rfl at_13 rfl ?_
  refine o_iload H1 rfl at_15 rfl ?_
  refine o_if_f H1 at_17 (by decide) rfl ?_
  refine o_aload H1 rfl rfl at_20 rfl ?_
  refine o_iconst H1 (0 : Int32) rfl at_22 rfl ?_
  refine o_lloadN H1 rfl at_23 rfl ?_
  refine o_bipush H1 (32 : Int32) rfl at_24 rfl ?_
  refine o_lushr H1 at_26 rfl ?_
  refine o_l2i H1 at_27 rfl ?_
  refine o_i2b H1 at_28 rfl ?_
  refine o_bastore H1 0 f3 (by decide) (Nat.le_of_ble_eq_true rfl) z1 at_29 rfl ?_
  intro T4 h4 H4 W4 A4
  have k5 := k2.wr W4 (Or.inr y1)
  have f6 : oA .byte Z h4 b1 [(.int (own_b0 p2 p3)), (.int 0), (.int 0), (.int 0)] := A4
  refine o_iload H4 rfl at_30 rfl ?_
  refine o_iconst H4 (1 : Int32) rfl at_32 rfl ?_
  refine o_icmp_f H4 at_33 (by decide) rfl ?_
  refine o_aload H4 rfl rfl at_36 rfl ?_
  refine o_iconst H4 (1 : Int32) rfl at_38 rfl ?_
  refine o_lloadN H4 rfl at_39 rfl ?_
  refine o_bipush H4 (24 : Int32) rfl at_40 rfl ?_
  refine o_lushr H4 at_42 rfl ?_
  refine o_l2i H4 at_43 rfl ?_
  refine o_i2b H4 at_44 rfl ?_
  refine o_bastore H4 1 f6 (by decide) (Nat.le_of_ble_eq_true rfl) z1 at_45 rfl ?_
  intro T7 h7 H7 W7 A7
  have k8 := k5.wr W7 (Or.inr y1)
  have f9 : oA .byte Z h7 b1 [(.int (own_b0 p2 p3)), (.int (own_b1 p2 p3)), (.int 0), (.int 0)] := A7
  refine o_iload H7 rfl at_46 rfl ?_
  refine o_iconst H7 (2 : Int32) rfl at_48 rfl ?_
  refine o_icmp_f H7 at_49 (by decide) rfl ?_
  refine o_aload H7 rfl rfl at_52 rfl ?_
  refine o_iconst H7 (2 : Int32) rfl at_54 rfl ?_
  refine o_lloadN H7 rfl at_55 rfl ?_
  refine o_bipush H7 (16 : Int32) rfl at_56 rfl ?_
  refine o_lushr H7 at_58 rfl ?_
  refine o_l2i H7 at_59 rfl ?_
  refine o_i2b H7 at_60 rfl ?_
  refine o_bastore H7 2 f9 (by decide) (Nat.le_of_ble_eq_true rfl) z1 at_61 rfl ?_
  intro T10 h10 H10 W10 A10
  have k11 := k8.wr W10 (Or.inr y1)
  have f12 : oA .byte Z h10 b1 [(.int (own_b0 p2 p3)), (.int (own_b1 p2 p3)), (.int (own_b2 p2 p3)), (.int 0)] := A10
  refine o_iload H10 rfl at_62 rfl ?_
  refine o_iconst H10 (3 : Int32) rfl at_64 rfl ?_
  refine o_icmp_f H10 at_65 (by decide) rfl ?_
  refine o_aload H10 rfl rfl at_68 rfl ?_
  refine o_iconst H10 (3 : Int32) rfl at_70 rfl ?_
  refine o_lloadN H10 rfl at_71 rfl ?_
  refine o_bipush H10 (8 : Int32) rfl at_72 rfl ?_
  refine o_lushr H10 at_74 rfl ?_
  refine o_l2i H10 at_75 rfl ?_
  refine o_i2b H10 at_76 rfl ?_
  refine o_bastore H10 3 f12 (by decide) (Nat.le_of_ble_eq_true rfl) z1 at_77 rfl ?_
  intro T13 h13 H13 W13 A13
  have k14 := k11.wr W13 (Or.inr y1)
  have f15 : oA .byte Z h13 b1 [(.int (own_b0 p2 p3)), (.int (own_b1 p2 p3)), (.int (own_b2 p2 p3)), (.int (own_b3 p2 p3))] := A13
  refine o_iload H13 rfl at_78 rfl ?_
  refine o_iconst H13 (4 : Int32) rfl at_80 rfl ?_
  refine o_icmp_t H13 at_81 (by decide) (pt := 91) (by decide) (by decide) ?_
  refine o_iload H13 rfl at_91 rfl ?_
  refine o_iconst H13 (5 : Int32) rfl at_93 rfl ?_
  refine o_icmp_t H13 at_94 (by decide) (pt := 107) (by decide) (by decide) ?_
  refine o_iload H13 rfl at_107 rfl ?_
  refine o_bipush H13 (6 : Int32) rfl at_109 rfl ?_
  refine o_icmp_t H13 at_111 (by decide) (pt := 125) (by decide) (by decide) ?_
  refine o_iload H13 rfl at_125 rfl ?_
  refine o_bipush H13 (7 : Int32) rfl at_127 rfl ?_
  refine o_icmp_t H13 at_129 (by decide) (pt := 143) (by decide) (by decide) ?_
  refine o_iload H13 rfl at_143 rfl ?_
  refine o_bipush H13 (8 : Int32) rfl at_145 rfl ?_
  refine o_icmp_t H13 at_147 (by decide) (pt := 161) (by decide) (by decide) ?_
  refine o_iload H13 rfl at_161 rfl ?_
  refine o_bipush H13 (9 : Int32) rfl at_163 rfl ?_
  refine o_icmp_t H13 at_165 (by decide) (pt := 176) (by decide) (by decide) ?_
  refine o_aload H13 rfl rfl at_176 rfl ?_
  refine o_static H13 [(.ref b1)] [] (rm1_4 l Z a0 hw b1 al cs (own_b0 p2 p3) (own_b1 p2 p3) (own_b2 p2 p3) (own_b3 p2 p3) h13 n0 H13.le f15 (S_a.ext (o_kext k14)) (AL.ext (o_kext k14)) (S_c.ext (o_kext k14)) hcs) (w2 hw) (w3 hw) (w4 hw) (w5 hw) (by decide) (lenOf pd1 rfl) rfl rfl (by decide) (Nat.le_of_ble_eq_true rfl) (by decide) (by decide) at_178 rfl ?_
  intro T16 v16 h16 H16 q16
  obtain ⟨r16, b16, rfl, K16, X16, FC16, FV16, A16⟩ := q16
  have k17 := k14.trans K16 all0
  show oG p e below s n0 _ _ _ (T16.setTop (mkF m 181 #[.val (.int p1), .val (.long p2), .second, .val (.long p3), .second, .val (.int (4 : Int32)), .val (.ref b1), .unset, .unset, .unset, .unset, .unset, .unset, .unset, .unset, .unset] [(.ref r16)]))
  exact rmT l Z a0 hw p1 p2 p3 (4 : Int32) (4 : Int32) (0 : Int32) b1 r16 b16 (own_E_4 p2 p3) cs fm h16 n0 X16 FV16 FC16 A16 (S_c.ext (o_kext k17)) hcs (S_f.ext (o_kext k17)) hfm (by decide) (by decide) (show (7 : Nat).toInt32 = _ by decide) (own_all_4 p2 p3) p e s m below meth c T16 (H16.more (by decide) (by decide))
set_option maxRecDepth 65536 in
set_option maxHeartbeats 40000000 in
theorem rmL_5 (l : Launch) (Z : State) (a0 : Array Value) (hw : ∀ d ∈ tables_1, d.before a0 Z = true) (p1 : Int32) (p2 p3 : Int64) (al : Addr) (cs : Int32) (fm : Value) (h0 : Heap) (n0 : Nat) (Z0 : n0 ≤ h0.size) (S_a : Sta Z h0 "com/example/encase/encase/codec/Base32" "ALPHABET" "[C" (.ref al)) (AL : oA .char Z h0 al own_alist) (S_c : Sta Z h0 "java/lang/String" "COMPACT_STRINGS" "Z" (.int cs)) (hcs : ¬ cs = 0) (S_f : Sta Z h0 "jdk/internal/util/Preconditions" "SIOOBE_FORMATTER" "Ljava/util/function/BiFunction;" fm) (hfm : fm.isRef = true) (p : Program) (e : Env) (s : State) (m : MethodId) (below : List Frame) (meth : Method) (c : Code) (T : State) (H : oH p l e room_1 s m #[.int p1, .long p2, .long p3] below meth c code maxLocals x ret Z n0 T h0 0 0) :
    oG p e below s n0 24 256 (fun v h => v = some (.int 1)) (T.setTop (mkF m 9 #[.val (.int p1), .val (.long p2), .second, .val (.long p3), .second, .val (.int (5 : Int32)), .unset, .unset, .unset, .unset, .unset, .unset, .unset, .unset, .unset, .unset] [])) := by
  refine o_iload H rfl at_9 rfl ?_
  refine o_newarr (aty := .byte) H 5 5 (w1 hw) (by decide) (by decide) (by decide) at_11 rfl (by decide) (by decide) ?_
  intro T1 h1 b1 g1 H1 E1 A1
  have z1 : n0 ≤ b1 := by rw [g1]; exact H.le
  have y1 : h0.size ≤ b1 := by rw [g1]; exact (Keep.refl h0 []).1
  have k2 := (Keep.refl h0 []).ext E1
  have f3 : oA .byte Z h1 b1 [(.int 0), (.int 0), (.int 0), (.int 0), (.int 0)] := A1
  refine o_astore H1 (L' := #[.val (.int p1), .val (.long p2), .second, .val (.long p3), .second, .val (.int (5 : Int32)), .val (.ref b1), .unset, .unset, .unset, .unset, .unset, .unset, .unset, .unset, .unset]) rfl rfl at_13 rfl ?_
  refine o_iload H1 rfl at_15 rfl ?_
  refine o_if_f H1 at_17 (by decide) rfl ?_
  refine o_aload H1 rfl rfl at_20 rfl ?_
  refine o_iconst H1 (0 : Int32) rfl at_22 rfl ?_
  refine o_lloadN H1 rfl at_23 rfl ?_
  refine o_bipush H1 (32 : Int32) rfl at_24 rfl ?_
  refine o_lushr H1 at_26 rfl ?_
  refine o_l2i H1 at_27 rfl ?_
  refine o_i2b H1 at_28 rfl ?_
  refine o_bastore H1 0 f3 (by decide) (Nat.le_of_ble_eq_true rfl) z1 at_29 rfl ?_
  intro T4 h4 H4 W4 A4
  have k5 := k2.wr W4 (Or.inr y1)
  have f6 : oA .byte Z h4 b1 [(.int (own_b0 p2 p3)), (.int 0), (.int 0), (.int 0), (.int 0)] := A4
  refine o_iload H4 rfl at_30 rfl ?_
  refine o_iconst H4 (1 : Int32) rfl at_32 rfl ?_
  refine o_icmp_f H4 at_33 (by decide) rfl ?_
  refine o_aload H4 rfl rfl at_36 rfl ?_
  refine o_iconst H4 (1 : Int32) rfl at_38 rfl ?_
  refine o_lloadN H4 rfl at_39 rfl ?_
  refine o_bipush H4 (24 : Int32) rfl at_40 rfl ?_
  refine o_lushr H4 at_42 rfl ?_
  refine o_l2i H4 at_43 rfl ?_
  refine o_i2b H4 at_44 rfl ?_
  refine o_bastore H4 1 f6 (by decide) (Nat.le_of_ble_eq_true rfl) z1 at_45 rfl ?_
  intro T7 h7 H7 W7 A7
  have k8 := k5.wr W7 (Or.inr y1)
  have f9 : oA .byte Z h7 b1 [(.int (own_b0 p2 p3)), (.int (own_b1 p2 p3)), (.int 0), (.int 0), (.int 0)] := A7
  refine o_iload H7 rfl at_46 rfl ?_
  refine o_iconst H7 (2 : Int32) rfl at_48 rfl ?_
  refine o_icmp_f H7 at_49 (by decide) rfl ?_
  refine o_aload H7 rfl rfl at_52 rfl ?_
  refine o_iconst H7 (2 : Int32) rfl at_54 rfl ?_
  refine o_lloadN H7 rfl at_55 rfl ?_
  refine o_bipush H7 (16 : Int32) rfl at_56 rfl ?_
  refine o_lushr H7 at_58 rfl ?_
  refine o_l2i H7 at_59 rfl ?_
  refine o_i2b H7 at_60 rfl ?_
  refine o_bastore H7 2 f9 (by decide) (Nat.le_of_ble_eq_true rfl) z1 at_61 rfl ?_
  intro T10 h10 H10 W10 A10
  have k11 := k8.wr W10 (Or.inr y1)
  have f12 : oA .byte Z h10 b1 [(.int (own_b0 p2 p3)), (.int (own_b1 p2 p3)), (.int (own_b2 p2 p3)), (.int 0), (.int 0)] := A10
  refine o_iload H10 rfl at_62 rfl ?_
  refine o_iconst H10 (3 : Int32) rfl at_64 rfl ?_
  refine o_icmp_f H10 at_65 (by decide) rfl ?_
  refine o_aload H10 rfl rfl at_68 rfl ?_
  refine o_iconst H10 (3 : Int32) rfl at_70 rfl ?_
  refine o_lloadN H10 rfl at_71 rfl ?_
  refine o_bipush H10 (8 : Int32) rfl at_72 rfl ?_
  refine o_lushr H10 at_74 rfl ?_
  refine o_l2i H10 at_75 rfl ?_
  refine o_i2b H10 at_76 rfl ?_
  refine o_bastore H10 3 f12 (by decide) (Nat.le_of_ble_eq_true rfl) z1 at_77 rfl ?_
  intro T13 h13 H13 W13 A13
  have k14 := k11.wr W13 (Or.inr y1)
  have f15 : oA .byte Z h13 b1 [(.int (own_b0 p2 p3)), (.int (own_b1 p2 p3)), (.int (own_b2 p2 p3)), (.int (own_b3 p2 p3)), (.int 0)] := A13
  refine o_iload H13 rfl at_78 rfl ?_
  refine o_iconst H13 (4 : Int32) rfl at_80 rfl ?_
  refine o_icmp_f H13 at_81 (by decide) rfl ?_
  refine o_aload H13 rfl rfl at_84 rfl ?_
  refine o_iconst H13 (4 : Int32) rfl at_86 rfl ?_
  refine o_lloadN H13 rfl at_87 rfl ?_
  refine o_l2i H13 at_88 rfl ?_
  refine o_i2b H13 at_89 rfl ?_
  refine o_bastore H13 4 f15 (by decide) (Nat.le_of_ble_eq_true rfl) z1 at_90 rfl ?_
  intro T16 h16 H16 W16 A16
  have k17 := k14.wr W16 (Or.inr y1)
  have f18 : oA .byte Z h16 b1 [(.int (own_b0 p2 p3)), (.int (own_b1 p2 p3)), (.int (own_b2 p2 p3)), (.int (own_b3 p2 p3)), (.int (own_b4 p2 p3))] := A16
  refine o_iload H16 rfl at_91 rfl ?_
  refine o_iconst H16 (5 : Int32) rfl at_93 rfl ?_
  refine o_icmp_t H16 at_94 (by decide) (pt := 107) (by decide) (by decide) ?_
  refine o_iload H16 rfl at_107 rfl ?_
  refine o_bipush H16 (6 : Int32) rfl at_109 rfl ?_
  refine o_icmp_t H16 at_111 (by decide) (pt := 125) (by decide) (by decide) ?_
  refine o_iload H16 rfl at_125 rfl ?_
  refine o_bipush H16 (7 : Int32) rfl at_127 rfl ?_
  refine o_icmp_t H16 at_129 (by decide) (pt := 143) (by decide) (by decide) ?_
  refine o_iload H16 rfl at_143 rfl ?_
  refine o_bipush H16 (8 : Int32) rfl at_145 rfl ?_
  refine o_icmp_t H16 at_147 (by decide) (pt := 161) (by decide) (by decide) ?_
  refine o_iload H16 rfl at_161 rfl ?_
  refine o_bipush H16 (9 : Int32) rfl at_163 rfl ?_
  refine o_icmp_t H16 at_165 (by decide) (pt := 176) (by decide) (by decide) ?_
  refine o_aload H16 rfl rfl at_176 rfl ?_
  refine o_static H16 [(.ref b1)] [] (rm1_5 l Z a0 hw b1 al cs (own_b0 p2 p3) (own_b1 p2 p3) (own_b2 p2 p3) (own_b3 p2 p3) (own_b4 p2 p3) h16 n0 H16.le f18 (S_a.ext (o_kext k17)) (AL.ext (o_kext k17)) (S_c.ext (o_kext k17)) hcs) (w2 hw) (w3 hw) (w4 hw) (w5 hw) (by decide) (lenOf pd1 rfl) rfl rfl (by decide) (Nat.le_of_ble_eq_true rfl) (by decide) (by decide) at_178 rfl ?_
  intro T19 v19 h19 H19 q19
  obtain ⟨r19, b19, rfl, K19, X19, FC19, FV19, A19⟩ := q19
  have k20 := k17.trans K19 all0
  show oG p e below s n0 _ _ _ (T19.setTop (mkF m 181 #[.val (.int p1), .val (.long p2), .second, .val (.long p3), .second, .val (.int (5 : Int32)), .val (.ref b1), .unset, .unset, .unset, .unset, .unset, .unset, .unset, .unset, .unset] [(.ref r19)]))
  exact rmT l Z a0 hw p1 p2 p3 (5 : Int32) (5 : Int32) (0 : Int32) b1 r19 b19 (own_E_5 p2 p3) cs fm h19 n0 X19 FV19 FC19 A19 (S_c.ext (o_kext k20)) hcs (S_f.ext (o_kext k20)) hfm (by decide) (by decide) (show (8 : Nat).toInt32 = _ by decide) (own_all_5 p2 p3) p e s m below meth c T19 (H19.more (by decide) (by decide))
set_option maxRecDepth 65536 in
set_option maxHeartbeats 40000000 in
theorem rmL_6 (l : Launch) (Z : State) (a0 : Array Value) (hw : ∀ d ∈ tables_1, d.before a0 Z = true) (p1 : Int32) (p2 p3 : Int64) (al : Addr) (cs : Int32) (fm : Value) (h0 : Heap) (n0 : Nat) (Z0 : n0 ≤ h0.size) (S_a : Sta Z h0 "com/example/encase/encase/codec/Base32" "ALPHABET" "[C" (.ref al)) (AL : oA .char Z h0 al own_alist) (S_c : Sta Z h0 "java/lang/String" "COMPACT_STRINGS" "Z" (.int cs)) (hcs : ¬ cs = 0) (S_f : Sta Z h0 "jdk/internal/util/Preconditions" "SIOOBE_FORMATTER" "Ljava/util/function/BiFunction;" fm) (hfm : fm.isRef = true) (p : Program) (e : Env) (s : State) (m : MethodId) (below : List Frame) (meth : Method) (c : Code) (T : State) (H : oH p l e room_1 s m #[.int p1, .long p2, .long p3] below meth c code maxLocals x ret Z n0 T h0 0 0) :
    oG p e below s n0 24 256 (fun v h => v = some (.int 1)) (T.setTop (mkF m 9 #[.val (.int p1), .val (.long p2), .second, .val (.long p3), .second, .val (.int (6 : Int32)), .unset, .unset, .unset, .unset, .unset, .unset, .unset, .unset, .unset, .unset] [])) := by
  refine o_iload H rfl at_9 rfl ?_
  refine o_newarr (aty := .byte) H 6 6 (w1 hw) (by decide) (by decide) (by decide) at_11 rfl (by decide) (by decide) ?_
  intro T1 h1 b1 g1 H1 E1 A1
  have z1 : n0 ≤ b1 := by rw [g1]; exact H.le
  have y1 : h0.size ≤ b1 := by rw [g1]; exact (Keep.refl h0 []).1
  have k2 := (Keep.refl h0 []).ext E1
  have f3 : oA .byte Z h1 b1 [(.int 0), (.int 0), (.int 0), (.int 0), (.int 0), (.int 0)] := A1
  refine o_astore H1 (L' := #[.val (.int p1), .val (.long p2), .second, .val (.long p3), .second, .val (.int (6 : Int32)), .val (.ref b1), .unset, .unset, .unset, .unset, .unset, .unset, .unset, .unset, .unset]) rfl rfl at_13 rfl ?_
  refine o_iload H1 rfl at_15 rfl ?_
  refine o_if_f H1 at_17 (by decide) rfl ?_
  refine o_aload H1 rfl rfl at_20 rfl ?_
  refine o_iconst H1 (0 : Int32) rfl at_22 rfl ?_
  refine o_lloadN H1 rfl at_23 rfl ?_
  refine o_bipush H1 (32 : Int32) rfl at_24 rfl ?_
  refine o_lushr H1 at_26 rfl ?_
  refine o_l2i H1 at_27 rfl ?_
  refine o_i2b H1 at_28 rfl ?_
  refine o_bastore H1 0 f3 (by decide) (Nat.le_of_ble_eq_true rfl) z1 at_29 rfl ?_
  intro T4 h4 H4 W4 A4
  have k5 := k2.wr W4 (Or.inr y1)
  have f6 : oA .byte Z h4 b1 [(.int (own_b0 p2 p3)), (.int 0), (.int 0), (.int 0), (.int 0), (.int 0)] := A4
  refine o_iload H4 rfl at_30 rfl ?_
  refine o_iconst H4 (1 : Int32) rfl at_32 rfl ?_
  refine o_icmp_f H4 at_33 (by decide) rfl ?_
  refine o_aload H4 rfl rfl at_36 rfl ?_
  refine o_iconst H4 (1 : Int32) rfl at_38 rfl ?_
  refine o_lloadN H4 rfl at_39 rfl ?_
  refine o_bipush H4 (24 : Int32) rfl at_40 rfl ?_
  refine o_lushr H4 at_42 rfl ?_
  refine o_l2i H4 at_43 rfl ?_
  refine o_i2b H4 at_44 rfl ?_
  refine o_bastore H4 1 f6 (by decide) (Nat.le_of_ble_eq_true rfl) z1 at_45 rfl ?_
  intro T7 h7 H7 W7 A7
  have k8 := k5.wr W7 (Or.inr y1)
  have f9 : oA .byte Z h7 b1 [(.int (own_b0 p2 p3)), (.int (own_b1 p2 p3)), (.int 0), (.int 0), (.int 0), (.int 0)] := A7
  refine o_iload H7 rfl at_46 rfl ?_
  refine o_iconst H7 (2 : Int32) rfl at_48 rfl ?_
  refine o_icmp_f H7 at_49 (by decide) rfl ?_
  refine o_aload H7 rfl rfl at_52 rfl ?_
  refine o_iconst H7 (2 : Int32) rfl at_54 rfl ?_
  refine o_lloadN H7 rfl at_55 rfl ?_
  refine o_bipush H7 (16 : Int32) rfl at_56 rfl ?_
  refine o_lushr H7 at_58 rfl ?_
  refine o_l2i H7 at_59 rfl ?_
  refine o_i2b H7 at_60 rfl ?_
  refine o_bastore H7 2 f9 (by decide) (Nat.le_of_ble_eq_true rfl) z1 at_61 rfl ?_
  intro T10 h10 H10 W10 A10
  have k11 := k8.wr W10 (Or.inr y1)
  have f12 : oA .byte Z h10 b1 [(.int (own_b0 p2 p3)), (.int (own_b1 p2 p3)), (.int (own_b2 p2 p3)), (.int 0), (.int 0), (.int 0)] := A10
  refine o_iload H10 rfl at_62 rfl ?_
  refine o_iconst H10 (3 : Int32) rfl at_64 rfl ?_
  refine o_icmp_f H10 at_65 (by decide) rfl ?_
  refine o_aload H10 rfl rfl at_68 rfl ?_
  refine o_iconst H10 (3 : Int32) rfl at_70 rfl ?_
  refine o_lloadN H10 rfl at_71 rfl ?_
  refine o_bipush H10 (8 : Int32) rfl at_72 rfl ?_
  refine o_lushr H10 at_74 rfl ?_
  refine o_l2i H10 at_75 rfl ?_
  refine o_i2b H10 at_76 rfl ?_
  refine o_bastore H10 3 f12 (by decide) (Nat.le_of_ble_eq_true rfl) z1 at_77 rfl ?_
  intro T13 h13 H13 W13 A13
  have k14 := k11.wr W13 (Or.inr y1)
  have f15 : oA .byte Z h13 b1 [(.int (own_b0 p2 p3)), (.int (own_b1 p2 p3)), (.int (own_b2 p2 p3)), (.int (own_b3 p2 p3)), (.int 0), (.int 0)] := A13
  refine o_iload H13 rfl at_78 rfl ?_
  refine o_iconst H13 (4 : Int32) rfl at_80 rfl ?_
  refine o_icmp_f H13 at_81 (by decide) rfl ?_
  refine o_aload H13 rfl rfl at_84 rfl ?_
  refine o_iconst H13 (4 : Int32) rfl at_86 rfl ?_
  refine o_lloadN H13 rfl at_87 rfl ?_
  refine o_l2i H13 at_88 rfl ?_
  refine o_i2b H13 at_89 rfl ?_
  refine o_bastore H13 4 f15 (by decide) (Nat.le_of_ble_eq_true rfl) z1 at_90 rfl ?_
  intro T16 h16 H16 W16 A16
  have k17 := k14.wr W16 (Or.inr y1)
  have f18 : oA .byte Z h16 b1 [(.int (own_b0 p2 p3)), (.int (own_b1 p2 p3)), (.int (own_b2 p2 p3)), (.int (own_b3 p2 p3)), (.int (own_b4 p2 p3)), (.int 0)] := A16
  refine o_iload H16 rfl at_91 rfl ?_
  refine o_iconst H16 (5 : Int32) rfl at_93 rfl ?_
  refine o_icmp_f H16 at_94 (by decide) rfl ?_
  refine o_aload H16 rfl rfl at_97 rfl ?_
  refine o_iconst H16 (5 : Int32) rfl at_99 rfl ?_
  refine o_lloadN H16 rfl at_100 rfl ?_
  refine o_bipush H16 (32 : Int32) rfl at_101 rfl ?_
  refine o_lushr H16 at_103 rfl ?_
  refine o_l2i H16 at_104 rfl ?_
  refine o_i2b H16 at_105 rfl ?_
  refine o_bastore H16 5 f18 (by decide) (Nat.le_of_ble_eq_true rfl) z1 at_106 rfl ?_
  intro T19 h19 H19 W19 A19
  have k20 := k17.wr W19 (Or.inr y1)
  have f21 : oA .byte Z h19 b1 [(.int (own_b0 p2 p3)), (.int (own_b1 p2 p3)), (.int (own_b2 p2 p3)), (.int (own_b3 p2 p3)), (.int (own_b4 p2 p3)), (.int (own_b5 p2 p3))] := A19
  refine o_iload H19 rfl at_107 rfl ?_
  refine o_bipush H19 (6 : Int32) rfl at_109 rfl ?_
  refine o_icmp_t H19 at_111 (by decide) (pt := 125) (by decide) (by decide) ?_
  refine o_iload H19 rfl at_125 rfl ?_
  refine o_bipush H19 (7 : Int32) rfl at_127 rfl ?_
  refine o_icmp_t H19 at_129 (by decide) (pt := 143) (by decide) (by decide) ?_
  refine o_iload H19 rfl at_143 rfl ?_
  refine o_bipush H19 (8 : Int32) rfl at_145 rfl ?_
  refine o_icmp_t H19 at_147 (by decide) (pt := 161) (by decide) (by decide) ?_
  refine o_iload H19 rfl at_161 rfl ?_
  refine o_bipush H19 (9 : Int32) rfl at_163 rfl ?_
  refine o_icmp_t H19 at_165 (by decide) (pt := 176) (by decide) (by decide) ?_
  refine o_aload H19 rfl rfl at_176 rfl ?_
  refine o_static H19 [(.ref b1)] [] (rm1_6 l Z a0 hw b1 al cs (own_b0 p2 p3) (own_b1 p2 p3) (own_b2 p2 p3) (own_b3 p2 p3) (own_b4 p2 p3) (own_b5 p2 p3) h19 n0 H19.le f21 (S_a.ext (o_kext k20)) (AL.ext (o_kext k20)) (S_c.ext (o_kext k20)) hcs) (w2 hw) (w3 hw) (w4 hw) (w5 hw) (by decide) (lenOf pd1 rfl) rfl rfl (by decide) (Nat.le_of_ble_eq_true rfl) (by decide) (by decide) at_178 rfl ?_
  intro T22 v22 h22 H22 q22
  obtain ⟨r22, b22, rfl, K22, X22, FC22, FV22, A22⟩ := q22
  have k23 := k20.trans K22 all0
  show oG p e below s n0 _ _ _ (T22.setTop (mkF m 181 #[.val (.int p1), .val (.long p2), .second, .val (.long p3), .second, .val (.int (6 : Int32)), .val (.ref b1), .unset, .unset, .unset, .unset, .unset, .unset, .unset, .unset, .unset] [(.ref r22)]))
  exact rmT l Z a0 hw p1 p2 p3 (6 : Int32) (5 : Int32) (1 : Int32) b1 r22 b22 (own_E_6 p2 p3) cs fm h22 n0 X22 FV22 FC22 A22 (S_c.ext (o_kext k23)) hcs (S_f.ext (o_kext k23)) hfm (by decide) (by decide) (show (10 : Nat).toInt32 = _ by decide) (own_all_6 p2 p3) p e s m below meth c T22 (H22.more (by decide) (by decide))
set_option maxRecDepth 65536 in
set_option maxHeartbeats 40000000 in
theorem rmL_7 (l : Launch) (Z : State) (a0 : Array Value) (hw : ∀ d ∈ tables_1, d.before a0 Z = true) (p1 : Int32) (p2 p3 : Int64) (al : Addr) (cs : Int32) (fm : Value) (h0 : Heap) (n0 : Nat) (Z0 : n0 ≤ h0.size) (S_a : Sta Z h0 "com/example/encase/encase/codec/Base32" "ALPHABET" "[C" (.ref al)) (AL : oA .char Z h0 al own_alist) (S_c : Sta Z h0 "java/lang/String" "COMPACT_STRINGS" "Z" (.int cs)) (hcs : ¬ cs = 0) (S_f : Sta Z h0 "jdk/internal/util/Preconditions" "SIOOBE_FORMATTER" "Ljava/util/function/BiFunction;" fm) (hfm : fm.isRef = true) (p : Program) (e : Env) (s : State) (m : MethodId) (below : List Frame) (meth : Method) (c : Code) (T : State) (H : oH p l e room_1 s m #[.int p1, .long p2, .long p3] below meth c code maxLocals x ret Z n0 T h0 0 0) :
    oG p e below s n0 24 256 (fun v h => v = some (.int 1)) (T.setTop (mkF m 9 #[.val (.int p1), .val (.long p2), .second, .val (.long p3), .second, .val (.int (7 : Int32)), .unset, .unset, .unset, .unset, .unset, .unset, .unset, .unset, .unset, .unset] [])) := by
  refine o_iload H rfl at_9 rfl ?_
  refine o_newarr (aty := .byte) H 7 7 (w1 hw) (by decide) (by decide) (by decide) at_11 rfl (by decide) (by decide) ?_
  intro T1 h1 b1 g1 H1 E1 A1
  have z1 : n0 ≤ b1 := by rw [g1]; exact H.le
  have y1 : h0.size ≤ b1 := by rw [g1]; exact (Keep.refl h0 []).1
  have k2 := (Keep.refl h0 []).ext E1
  have f3 : oA .byte Z h1 b1 [(.int 0), (.int 0), (.int 0), (.int 0), (.int 0), (.int 0), (.int 0)] := A1
  refine o_astore H1 (L' := #[.val (.int p1), .val (.long p2), .second, .val (.long p3), .second, .val (.int (7 : Int32)), .val (.ref b1), .unset, .unset, .unset, .unset, .unset, .unset, .unset, .unset, .unset]) rfl rfl at_13 rfl ?_
  refine o_iload H1 rfl at_15 rfl ?_
  refine o_if_f H1 at_17 (by decide) rfl ?_
  refine o_aload H1 rfl rfl at_20 rfl ?_
  refine o_iconst H1 (0 : Int32) rfl at_22 rfl ?_
  refine o_lloadN H1 rfl at_23 rfl ?_
  refine o_bipush H1 (32 : Int32) rfl at_24 rfl ?_
  refine o_lushr H1 at_26 rfl ?_
  refine o_l2i H1 at_27 rfl ?_
  refine o_i2b H1 at_28 rfl ?_
  refine o_bastore H1 0 f3 (by decide) (Nat.le_of_ble_eq_true rfl) z1 at_29 rfl ?_
  intro T4 h4 H4 W4 A4
  have k5 := k2.wr W4 (Or.inr y1)
  have f6 : oA .byte Z h4 b1 [(.int (own_b0 p2 p3)), (.int 0), (.int 0), (.int 0), (.int 0), (.int 0), (.int 0)] := A4
  refine o_iload H4 rfl at_30 rfl ?_
  refine o_iconst H4 (1 : Int32) rfl at_32 rfl ?_
  refine o_icmp_f H4 at_33 (by decide) rfl ?_
  refine o_aload H4 rfl rfl at_36 rfl ?_
  refine o_iconst H4 (1 : Int32) rfl at_38 rfl ?_
  refine o_lloadN H4 rfl at_39 rfl ?_
  refine o_bipush H4 (24 : Int32) rfl at_40 rfl ?_
  refine o_lushr H4 at_42 rfl ?_
  refine o_l2i H4 at_43 rfl ?_
  refine o_i2b H4 at_44 rfl ?_
  refine o_bastore H4 1 f6 (by decide) (Nat.le_of_ble_eq_true rfl) z1 at_45 rfl ?_
  intro T7 h7 H7 W7 A7
  have k8 := k5.wr W7 (Or.inr y1)
  have f9 : oA .byte Z h7 b1 [(.int (own_b0 p2 p3)), (.int (own_b1 p2 p3)), (.int 0), (.int 0), (.int 0), (.int 0), (.int 0)] := A7
  refine o_iload H7 rfl at_46 rfl ?_
  refine o_iconst H7 (2 : Int32) rfl at_48 rfl ?_
  refine o_icmp_f H7 at_49 (by decide) rfl ?_
  refine o_aload H7 rfl rfl at_52 rfl ?_
  refine o_iconst H7 (2 : Int32) rfl at_54 rfl ?_
  refine o_lloadN H7 rfl at_55 rfl ?_
  refine o_bipush H7 (16 : Int32) rfl at_56 rfl ?_
  refine o_lushr H7 at_58 rfl ?_
  refine o_l2i H7 at_59 rfl ?_
  refine o_i2b H7 at_60 rfl ?_
  refine o_bastore H7 2 f9 (by decide) (Nat.le_of_ble_eq_true rfl) z1 at_61 rfl ?_
  intro T10 h10 H10 W10 A10
  have k11 := k8.wr W10 (Or.inr y1)
  have f12 : oA .byte Z h10 b1 [(.int (own_b0 p2 p3)), (.int (own_b1 p2 p3)), (.int (own_b2 p2 p3)), (.int 0), (.int 0), (.int 0), (.int 0)] := A10
  refine o_iload H10 rfl at_62 rfl ?_
  refine o_iconst H10 (3 : Int32) rfl at_64 rfl ?_
  refine o_icmp_f H10 at_65 (by decide) rfl ?_
  refine o_aload H10 rfl rfl at_68 rfl ?_
  refine o_iconst H10 (3 : Int32) rfl at_70 rfl ?_
  refine o_lloadN H10 rfl at_71 rfl ?_
  refine o_bipush H10 (8 : Int32) rfl at_72 rfl ?_
  refine o_lushr H10 at_74 rfl ?_
  refine o_l2i H10 at_75 rfl ?_
  refine o_i2b H10 at_76 rfl ?_
  refine o_bastore H10 3 f12 (by decide) (Nat.le_of_ble_eq_true rfl) z1 at_77 rfl ?_
  intro T13 h13 H13 W13 A13
  have k14 := k11.wr W13 (Or.inr y1)
  have f15 : oA .byte Z h13 b1 [(.int (own_b0 p2 p3)), (.int (own_b1 p2 p3)), (.int (own_b2 p2 p3)), (.int (own_b3 p2 p3)), (.int 0), (.int 0), (.int 0)] := A13
  refine o_iload H13 rfl at_78 rfl ?_
  refine o_iconst H13 (4 : Int32) rfl at_80 rfl ?_
  refine o_icmp_f H13 at_81 (by decide) rfl ?_
  refine o_aload H13 rfl rfl at_84 rfl ?_
  refine o_iconst H13 (4 : Int32) rfl at_86 rfl ?_
  refine o_lloadN H13 rfl at_87 rfl ?_
  refine o_l2i H13 at_88 rfl ?_
  refine o_i2b H13 at_89 rfl ?_
  refine o_bastore H13 4 f15 (by decide) (Nat.le_of_ble_eq_true rfl) z1 at_90 rfl ?_
  intro T16 h16 H16 W16 A16
  have k17 := k14.wr W16 (Or.inr y1)
  have f18 : oA .byte Z h16 b1 [(.int (own_b0 p2 p3)), (.int (own_b1 p2 p3)), (.int (own_b2 p2 p3)), (.int (own_b3 p2 p3)), (.int (own_b4 p2 p3)), (.int 0), (.int 0)] := A16
  refine o_iload H16 rfl at_91 rfl ?_
  refine o_iconst H16 (5 : Int32) rfl at_93 rfl ?_
  refine o_icmp_f H16 at_94 (by decide) rfl ?_
  refine o_aload H16 rfl rfl at_97 rfl ?_
  refine o_iconst H16 (5 : Int32) rfl at_99 rfl ?_
  refine o_lloadN H16 rfl at_100 rfl ?_
  refine o_bipush H16 (32 : Int32) rfl at_101 rfl ?_
  refine o_lushr H16 at_103 rfl ?_
  refine o_l2i H16 at_104 rfl ?_
  refine o_i2b H16 at_105 rfl ?_
  refine o_bastore H16 5 f18 (by decide) (Nat.le_of_ble_eq_true rfl) z1 at_106 rfl ?_
  intro T19 h19 H19 W19 A19
  have k20 := k17.wr W19 (Or.inr y1)
  have f21 : oA .byte Z h19 b1 [(.int (own_b0 p2 p3)), (.int (own_b1 p2 p3)), (.int (own_b2 p2 p3)), (.int (own_b3 p2 p3)), (.int (own_b4 p2 p3)), (.int (own_b5 p2 p3)), (.int 0)] := A19
  refine o_iload H19 rfl at_107 rfl ?_
  refine o_bipush H19 (6 : Int32) rfl at_109 rfl ?_
  refine o_icmp_f H19 at_111 (by decide) rfl ?_
  refine o_aload H19 rfl rfl at_114 rfl ?_
  refine o_bipush H19 (6 : Int32) rfl at_116 rfl ?_
  refine o_lloadN H19 rfl at_118 rfl ?_
  refine o_bipush H19 (24 : Int32) rfl at_119 rfl ?_
  refine o_lushr H19 at_121 rfl ?_
  refine o_l2i H19 at_122 rfl ?_
  refine o_i2b H19 at_123 rfl ?_
  refine o_bastore H19 6 f21 (by decide) (Nat.le_of_ble_eq_true rfl) z1 at_124 rfl ?_
  intro T22 h22 H22 W22 A22
  have k23 := k20.wr W22 (Or.inr y1)
  have f24 : oA .byte Z h22 b1 [(.int (own_b0 p2 p3)), (.int (own_b1 p2 p3)), (.int (own_b2 p2 p3)), (.int (own_b3 p2 p3)), (.int (own_b4 p2 p3)), (.int (own_b5 p2 p3)), (.int (own_b6 p2 p3))] := A22
  refine o_iload H22 rfl at_125 rfl ?_
  refine o_bipush H22 (7 : Int32) rfl at_127 rfl ?_
  refine o_icmp_t H22 at_129 (by decide) (pt := 143) (by decide) (by decide) ?_
  refine o_iload H22 rfl at_143 rfl ?_
  refine o_bipush H22 (8 : Int32) rfl at_145 rfl ?_
  refine o_icmp_t H22 at_147 (by decide) (pt := 161) (by decide) (by decide) ?_
  refine o_iload H22 rfl at_161 rfl ?_
  refine o_bipush H22 (9 : Int32) rfl at_163 rfl ?_
  refine o_icmp_t H22 at_165 (by decide) (pt := 176) (by decide) (by decide) ?_
  refine o_aload H22 rfl rfl at_176 rfl ?_
  refine o_static H22 [(.ref b1)] [] (rm1_7 l Z a0 hw b1 al cs (own_b0 p2 p3) (own_b1 p2 p3) (own_b2 p2 p3) (own_b3 p2 p3) (own_b4 p2 p3) (own_b5 p2 p3) (own_b6 p2 p3) h22 n0 H22.le f24 (S_a.ext (o_kext k23)) (AL.ext (o_kext k23)) (S_c.ext (o_kext k23)) hcs) (w2 hw) (w3 hw) (w4 hw) (w5 hw) (by decide) (lenOf pd1 rfl) rfl rfl (by decide) (Nat.le_of_ble_eq_true rfl) (by decide) (by decide) at_178 rfl ?_
  intro T25 v25 h25 H25 q25
  obtain ⟨r25, b25, rfl, K25, X25, FC25, FV25, A25⟩ := q25
  have k26 := k23.trans K25 all0
  show oG p e below s n0 _ _ _ (T25.setTop (mkF m 181 #[.val (.int p1), .val (.long p2), .second, .val (.long p3), .second, .val (.int (7 : Int32)), .val (.ref b1), .unset, .unset, .unset, .unset, .unset, .unset, .unset, .unset, .unset] [(.ref r25)]))
  exact rmT l Z a0 hw p1 p2 p3 (7 : Int32) (5 : Int32) (2 : Int32) b1 r25 b25 (own_E_7 p2 p3) cs fm h25 n0 X25 FV25 FC25 A25 (S_c.ext (o_kext k26)) hcs (S_f.ext (o_kext k26)) hfm (by decide) (by decide) (show (12 : Nat).toInt32 = _ by decide) (own_all_7 p2 p3) p e s m below meth c T25 (H25.more (by decide) (by decide))
set_option maxRecDepth 65536 in
set_option maxHeartbeats 40000000 in
theorem rmL_8 (l : Launch) (Z : State) (a0 : Array Value) (hw : ∀ d ∈ tables_1, d.before a0 Z = true) (p1 : Int32) (p2 p3 : Int64) (al : Addr) (cs : Int32) (fm : Value) (h0 : Heap) (n0 : Nat) (Z0 : n0 ≤ h0.size) (S_a : Sta Z h0 "com/example/encase/encase/codec/Base32" "ALPHABET" "[C" (.ref al)) (AL : oA .char Z h0 al own_alist) (S_c : Sta Z h0 "java/lang/String" "COMPACT_STRINGS" "Z" (.int cs)) (hcs : ¬ cs = 0) (S_f : Sta Z h0 "jdk/internal/util/Preconditions" "SIOOBE_FORMATTER" "Ljava/util/function/BiFunction;" fm) (hfm : fm.isRef = true) (p : Program) (e : Env) (s : State) (m : MethodId) (below : List Frame) (meth : Method) (c : Code) (T : State) (H : oH p l e room_1 s m #[.int p1, .long p2, .long p3] below meth c code maxLocals x ret Z n0 T h0 0 0) :
    oG p e below s n0 24 256 (fun v h => v = some (.int 1)) (T.setTop (mkF m 9 #[.val (.int p1), .val (.long p2), .second, .val (.long p3), .second, .val (.int (8 : Int32)), .unset, .unset, .unset, .unset, .unset, .unset, .unset, .unset, .unset, .unset] [])) := by
  refine o_iload H rfl at_9 rfl ?_
  refine o_newarr (aty := .byte) H 8 8 (w1 hw) (by decide) (by decide) (by decide) at_11 rfl (by decide) (by decide) ?_
  intro T1 h1 b1 g1 H1 E1 A1
  have z1 : n0 ≤ b1 := by rw [g1]; exact H.le
  have y1 : h0.size ≤ b1 := by rw [g1]; exact (Keep.refl h0 []).1
  have k2 := (Keep.refl h0 []).ext E1
  have f3 : oA .byte Z h1 b1 [(.int 0), (.int 0), (.int 0), (.int 0), (.int 0), (.int 0), (.int 0), (.int 0)] := A1
  refine o_astore H1 (L' := #[.val (.int p1), .val (.long p2), .second, .val (.long p3), .second, .val (.int (8 : Int32)), .val (.ref b1), .unset, .unset, .unset, .unset, .unset, .unset, .unset, .unset, .unset]) rfl rfl at_13 rfl ?_
  refine o_iload H1 rfl at_15 rfl ?_
  refine o_if_f H1 at_17 (by decide) rfl ?_
  refine o_aload H1 rfl rfl at_20 rfl ?_
  refine o_iconst H1 (0 : Int32) rfl at_22 rfl ?_
  refine o_lloadN H1 rfl at_23 rfl ?_
  refine o_bipush H1 (32 : Int32) rfl at_24 rfl ?_
  refine o_lushr H1 at_26 rfl ?_
  refine o_l2i H1 at_27 rfl ?_
  refine o_i2b H1 at_28 rfl ?_
  refine o_bastore H1 0 f3 (by decide) (Nat.le_of_ble_eq_true rfl) z1 at_29 rfl ?_
  intro T4 h4 H4 W4 A4
  have k5 := k2.wr W4 (Or.inr y1)
  have f6 : oA .byte Z h4 b1 [(.int (own_b0 p2 p3)), (.int 0), (.int 0), (.int 0), (.int 0), (.int 0), (.int 0), (.int 0)] := A4
  refine o_iload H4 rfl at_30 rfl ?_
  refine o_iconst H4 (1 : Int32) rfl at_32 rfl ?_
  refine o_icmp_f H4 at_33 (by decide) rfl ?_
  refine o_aload H4 rfl rfl at_36 rfl ?_
  refine o_iconst H4 (1 : Int32) rfl at_38 rfl ?_
  refine o_lloadN H4 rfl at_39 rfl ?_
  refine o_bipush H4 (24 : Int32) rfl at_40 rfl ?_
  refine o_lushr H4 at_42 rfl ?_
  refine o_l2i H4 at_43 rfl ?_
  refine o_i2b H4 at_44 rfl ?_
  refine o_bastore H4 1 f6 (by decide) (Nat.le_of_ble_eq_true rfl) z1 at_45 rfl ?_
  intro T7 h7 H7 W7 A7
  have k8 := k5.wr W7 (Or.inr y1)
  have f9 : oA .byte Z h7 b1 [(.int (own_b0 p2 p3)), (.int (own_b1 p2 p3)), (.int 0), (.int 0), (.int 0), (.int 0), (.int 0), (.int 0)] := A7
  refine o_iload H7 rfl at_46 rfl ?_
  refine o_iconst H7 (2 : Int32) rfl at_48 rfl ?_
  refine o_icmp_f H7 at_49 (by decide) rfl ?_
  refine o_aload H7 rfl rfl at_52 rfl ?_
  refine o_iconst H7 (2 : Int32) rfl at_54 rfl ?_
  refine o_lloadN H7 rfl at_55 rfl ?_
  refine o_bipush H7 (16 : Int32) rfl at_56 rfl ?_
  refine o_lushr H7 at_58 rfl ?_
  refine o_l2i H7 at_59 rfl ?_
  refine o_i2b H7 at_60 rfl ?_
  refine o_bastore H7 2 f9 (by decide) (Nat.le_of_ble_eq_true rfl) z1 at_61 rfl ?_
  intro T10 h10 H10 W10 A10
  have k11 := k8.wr W10 (Or.inr y1)
  have f12 : oA .byte Z h10 b1 [(.int (own_b0 p2 p3)), (.int (own_b1 p2 p3)), (.int (own_b2 p2 p3)), (.int 0), (.int 0), (.int 0), (.int 0), (.int 0)] := A10
  refine o_iload H10 rfl at_62 rfl ?_
  refine o_iconst H10 (3 : Int32) rfl at_64 rfl ?_
  refine o_icmp_f H10 at_65 (by decide) rfl ?_
  refine o_aload H10 rfl rfl at_68 rfl ?_
  refine o_iconst H10 (3 : Int32) rfl at_70 rfl ?_
  refine o_lloadN H10 rfl at_71 rfl ?_
  refine o_bipush H10 (8 : Int32) rfl at_72 rfl ?_
  refine o_lushr H10 at_74 rfl ?_
  refine o_l2i H10 at_75 rfl ?_
  refine o_i2b H10 at_76 rfl ?_
  refine o_bastore H10 3 f12 (by decide) (Nat.le_of_ble_eq_true rfl) z1 at_77 rfl ?_
  intro T13 h13 H13 W13 A13
  have k14 := k11.wr W13 (Or.inr y1)
  have f15 : oA .byte Z h13 b1 [(.int (own_b0 p2 p3)), (.int (own_b1 p2 p3)), (.int (own_b2 p2 p3)), (.int (own_b3 p2 p3)), (.int 0), (.int 0), (.int 0), (.int 0)] := A13
  refine o_iload H13 rfl at_78 rfl ?_
  refine o_iconst H13 (4 : Int32) rfl at_80 rfl ?_
  refine o_icmp_f H13 at_81 (by decide) rfl ?_
  refine o_aload H13 rfl rfl at_84 rfl ?_
  refine o_iconst H13 (4 : Int32) rfl at_86 rfl ?_
  refine o_lloadN H13 rfl at_87 rfl ?_
  refine o_l2i H13 at_88 rfl ?_
  refine o_i2b H13 at_89 rfl ?_
  refine o_bastore H13 4 f15 (by decide) (Nat.le_of_ble_eq_true rfl) z1 at_90 rfl ?_
  intro T16 h16 H16 W16 A16
  have k17 := k14.wr W16 (Or.inr y1)
  have f18 : oA .byte Z h16 b1 [(.int (own_b0 p2 p3)), (.int (own_b1 p2 p3)), (.int (own_b2 p2 p3)), (.int (own_b3 p2 p3)), (.int (own_b4 p2 p3)), (.int 0), (.int 0), (.int 0)] := A16
  refine o_iload H16 rfl at_91 rfl ?_
  refine o_iconst H16 (5 : Int32) rfl at_93 rfl ?_
  refine o_icmp_f H16 at_94 (by decide) rfl ?_
  refine o_aload H16 rfl rfl at_97 rfl ?_
  refine o_iconst H16 (5 : Int32) rfl at_99 rfl ?_
  refine o_lloadN H16 rfl at_100 rfl ?_
  refine o_bipush H16 (32 : Int32) rfl at_101 rfl ?_
  refine o_lushr H16 at_103 rfl ?_
  refine o_l2i H16 at_104 rfl ?_
  refine o_i2b H16 at_105 rfl ?_
  refine o_bastore H16 5 f18 (by decide) (Nat.le_of_ble_eq_true rfl) z1 at_106 rfl ?_
  intro T19 h19 H19 W19 A19
  have k20 := k17.wr W19 (Or.inr y1)
  have f21 : oA .byte Z h19 b1 [(.int (own_b0 p2 p3)), (.int (own_b1 p2 p3)), (.int (own_b2 p2 p3)), (.int (own_b3 p2 p3)), (.int (own_b4 p2 p3)), (.int (own_b5 p2 p3)), (.int 0), (.int 0)] := A19
  refine o_iload H19 rfl at_107 rfl ?_
  refine o_bipush H19 (6 : Int32) rfl at_109 rfl ?_
  refine o_icmp_f H19 at_111 (by decide) rfl ?_
  refine o_aload H19 rfl rfl at_114 rfl ?_
  refine o_bipush H19 (6 : Int32) rfl at_116 rfl ?_
  refine o_lloadN H19 rfl at_118 rfl ?_
  refine o_bipush H19 (24 : Int32) rfl at_119 rfl ?_
  refine o_lushr H19 at_121 rfl ?_
  refine o_l2i H19 at_122 rfl ?_
  refine o_i2b H19 at_123 rfl ?_
  refine o_bastore H19 6 f21 (by decide) (Nat.le_of_ble_eq_true rfl) z1 at_124 rfl ?_
  intro T22 h22 H22 W22 A22
  have k23 := k20.wr W22 (Or.inr y1)
  have f24 : oA .byte Z h22 b1 [(.int (own_b0 p2 p3)), (.int (own_b1 p2 p3)), (.int (own_b2 p2 p3)), (.int (own_b3 p2 p3)), (.int (own_b4 p2 p3)), (.int (own_b5 p2 p3)), (.int (own_b6 p2 p3)), (.int 0)] := A22
  refine o_iload H22 rfl at_125 rfl ?_
  refine o_bipush H22 (7 : Int32) rfl at_127 rfl ?_
  refine o_icmp_f H22 at_129 (by decide) rfl ?_
  refine o_aload H22 rfl rfl at_132 rfl ?_
  refine o_bipush H22 (7 : Int32) rfl at_134 rfl ?_
  refine o_lloadN H22 rfl at_136 rfl ?_
  refine o_bipush H22 (16 : Int32) rfl at_137 rfl ?_
  refine o_lushr H22 at_139 rfl ?_
  refine o_l2i H22 at_140 rfl ?_
  refine o_i2b H22 at_141 rfl ?_
  refine o_bastore H22 7 f24 (by decide) (Nat.le_of_ble_eq_true rfl) z1 at_142 rfl ?_
  intro T25 h25 H25 W25 A25
  have k26 := k23.wr W25 (Or.inr y1)
  have f27 : oA .byte Z h25 b1 [(.int (own_b0 p2 p3)), (.int (own_b1 p2 p3)), (.int (own_b2 p2 p3)), (.int (own_b3 p2 p3)), (.int (own_b4 p2 p3)), (.int (own_b5 p2 p3)), (.int (own_b6 p2 p3)), (.int (own_b7 p2 p3))] := A25
  refine o_iload H25 rfl at_143 rfl ?_
  refine o_bipush H25 (8 : Int32) rfl at_145 rfl ?_
  refine o_icmp_t H25 at_147 (by decide) (pt := 161) (by decide) (by decide) ?_
  refine o_iload H25 rfl at_161 rfl ?_
  refine o_bipush H25 (9 : Int32) rfl at_163 rfl ?_
  refine o_icmp_t H25 at_165 (by decide) (pt := 176) (by decide) (by decide) ?_
  refine o_aload H25 rfl rfl at_176 rfl ?_
  refine o_static H25 [(.ref b1)] [] (rm1_8 l Z a0 hw b1 al cs (own_b0 p2 p3) (own_b1 p2 p3) (own_b2 p2 p3) (own_b3 p2 p3) (own_b4 p2 p3) (own_b5 p2 p3) (own_b6 p2 p3) (own_b7 p2 p3) h25 n0 H25.le f27 (S_a.ext (o_kext k26)) (AL.ext (o_kext k26)) (S_c.ext (o_kext k26)) hcs) (w2 hw) (w3 hw) (w4 hw) (w5 hw) (by decide) (lenOf pd1 rfl) rfl rfl (by decide) (Nat.le_of_ble_eq_true rfl) (by decide) (by decide) at_178 rfl ?_
  intro T28 v28 h28 H28 q28
  obtain ⟨r28, b28, rfl, K28, X28, FC28, FV28, A28⟩ := q28
  have k29 := k26.trans K28 all0
  show oG p e below s n0 _ _ _ (T28.setTop (mkF m 181 #[.val (.int p1), .val (.long p2), .second, .val (.long p3), .second, .val (.int (8 : Int32)), .val (.ref b1), .unset, .unset, .unset, .unset, .unset, .unset, .unset, .unset, .unset] [(.ref r28)]))
  exact rmT l Z a0 hw p1 p2 p3 (8 : Int32) (5 : Int32) (3 : Int32) b1 r28 b28 (own_E_8 p2 p3) cs fm h28 n0 X28 FV28 FC28 A28 (S_c.ext (o_kext k29)) hcs (S_f.ext (o_kext k29)) hfm (by decide) (by decide) (show (13 : Nat).toInt32 = _ by decide) (own_all_8 p2 p3) p e s m below meth c T28 (H28.more (by decide) (by decide))
set_option maxRecDepth 65536 in
set_option maxHeartbeats 40000000 in
theorem rmL_9 (l : Launch) (Z : State) (a0 : Array Value) (hw : ∀ d ∈ tables_1, d.before a0 Z = true) (p1 : Int32) (p2 p3 : Int64) (al : Addr) (cs : Int32) (fm : Value) (h0 : Heap) (n0 : Nat) (Z0 : n0 ≤ h0.size) (S_a : Sta Z h0 "com/example/encase/encase/codec/Base32" "ALPHABET" "[C" (.ref al)) (AL : oA .char Z h0 al own_alist) (S_c : Sta Z h0 "java/lang/String" "COMPACT_STRINGS" "Z" (.int cs)) (hcs : ¬ cs = 0) (S_f : Sta Z h0 "jdk/internal/util/Preconditions" "SIOOBE_FORMATTER" "Ljava/util/function/BiFunction;" fm) (hfm : fm.isRef = true) (p : Program) (e : Env) (s : State) (m : MethodId) (below : List Frame) (meth : Method) (c : Code) (T : State) (H : oH p l e room_1 s m #[.int p1, .long p2, .long p3] below meth c code maxLocals x ret Z n0 T h0 0 0) :
    oG p e below s n0 24 256 (fun v h => v = some (.int 1)) (T.setTop (mkF m 9 #[.val (.int p1), .val (.long p2), .second, .val (.long p3), .second, .val (.int (9 : Int32)), .unset, .unset, .unset, .unset, .unset, .unset, .unset, .unset, .unset, .unset] [])) := by
  refine o_iload H rfl at_9 rfl ?_
  refine o_newarr (aty := .byte) H 9 9 (w1 hw) (by decide) (by decide) (by decide) at_11 rfl (by decide) (by decide) ?_
  intro T1 h1 b1 g1 H1 E1 A1
  have z1 : n0 ≤ b1 := by rw [g1]; exact H.le
  have y1 : h0.size ≤ b1 := by rw [g1]; exact (Keep.refl h0 []).1
  have k2 := (Keep.refl h0 []).ext E1
  have f3 : oA .byte Z h1 b1 [(.int 0), (.int 0), (.int 0), (.int 0), (.int 0), (.int 0), (.int 0), (.int 0), (.int 0)] := A1
  refine o_astore H1 (L' := #[.val (.int p1), .val (.long p2), .second, .val (.long p3), .second, .val (.int (9 : Int32)), .val (.ref b1), .unset, .unset, .unset, .unset, .unset, .unset, .unset, .unset, .unset]) rfl rfl at_13 rfl ?_
  refine o_iload H1 rfl at_15 rfl ?_
  refine o_if_f H1 at_17 (by decide) rfl ?_
  refine o_aload H1 rfl rfl at_20 rfl ?_
  refine o_iconst H1 (0 : Int32) rfl at_22 rfl ?_
  refine o_lloadN H1 rfl at_23 rfl ?_
  refine o_bipush H1 (32 : Int32) rfl at_24 rfl ?_
  refine o_lushr H1 at_26 rfl ?_
  refine o_l2i H1 at_27 rfl ?_
  refine o_i2b H1 at_28 rfl ?_
  refine o_bastore H1 0 f3 (by decide) (Nat.le_of_ble_eq_true rfl) z1 at_29 rfl ?_
  intro T4 h4 H4 W4 A4
  have k5 := k2.wr W4 (Or.inr y1)
  have f6 : oA .byte Z h4 b1 [(.int (own_b0 p2 p3)), (.int 0), (.int 0), (.int 0), (.int 0), (.int 0), (.int 0), (.int 0), (.int 0)] := A4
  refine o_iload H4 rfl at_30 rfl ?_
  refine o_iconst H4 (1 : Int32) rfl at_32 rfl ?_
  refine o_icmp_f H4 at_33 (by decide) rfl ?_
  refine o_aload H4 rfl rfl at_36 rfl ?_
  refine o_iconst H4 (1 : Int32) rfl at_38 rfl ?_
  refine o_lloadN H4 rfl at_39 rfl ?_
  refine o_bipush H4 (24 : Int32) rfl at_40 rfl ?_
  refine o_lushr H4 at_42 rfl ?_
  refine o_l2i H4 at_43 rfl ?_
  refine o_i2b H4 at_44 rfl ?_
  refine o_bastore H4 1 f6 (by decide) (Nat.le_of_ble_eq_true rfl) z1 at_45 rfl ?_
  intro T7 h7 H7 W7 A7
  have k8 := k5.wr W7 (Or.inr y1)
  have f9 : oA .byte Z h7 b1 [(.int (own_b0 p2 p3)), (.int (own_b1 p2 p3)), (.int 0), (.int 0), (.int 0), (.int 0), (.int 0), (.int 0), (.int 0)] := A7
  refine o_iload H7 rfl at_46 rfl ?_
  refine o_iconst H7 (2 : Int32) rfl at_48 rfl ?_
  refine o_icmp_f H7 at_49 (by decide) rfl ?_
  refine o_aload H7 rfl rfl at_52 rfl ?_
  refine o_iconst H7 (2 : Int32) rfl at_54 rfl ?_
  refine o_lloadN H7 rfl at_55 rfl ?_
  refine o_bipush H7 (16 : Int32) rfl at_56 rfl ?_
  refine o_lushr H7 at_58 rfl ?_
  refine o_l2i H7 at_59 rfl ?_
  refine o_i2b H7 at_60 rfl ?_
  refine o_bastore H7 2 f9 (by decide) (Nat.le_of_ble_eq_true rfl) z1 at_61 rfl ?_
  intro T10 h10 H10 W10 A10
  have k11 := k8.wr W10 (Or.inr y1)
  have f12 : oA .byte Z h10 b1 [(.int (own_b0 p2 p3)), (.int (own_b1 p2 p3)), (.int (own_b2 p2 p3)), (.int 0), (.int 0), (.int 0), (.int 0), (.int 0), (.int 0)] := A10
  refine o_iload H10 rfl at_62 rfl ?_
  refine o_iconst H10 (3 : Int32) rfl at_64 rfl ?_
  refine o_icmp_f H10 at_65 (by decide) rfl ?_
  refine o_aload H10 rfl rfl at_68 rfl ?_
  refine o_iconst H10 (3 : Int32) rfl at_70 rfl ?_
  refine o_lloadN H10 rfl at_71 rfl ?_
  refine o_bipush H10 (8 : Int32) rfl at_72 rfl ?_
  refine o_lushr H10 at_74 rfl ?_
  refine o_l2i H10 at_75 rfl ?_
  refine o_i2b H10 at_76 rfl ?_
  refine o_bastore H10 3 f12 (by decide) (Nat.le_of_ble_eq_true rfl) z1 at_77 rfl ?_
  intro T13 h13 H13 W13 A13
  have k14 := k11.wr W13 (Or.inr y1)
  have f15 : oA .byte Z h13 b1 [(.int (own_b0 p2 p3)), (.int (own_b1 p2 p3)), (.int (own_b2 p2 p3)), (.int (own_b3 p2 p3)), (.int 0), (.int 0), (.int 0), (.int 0), (.int 0)] := A13
  refine o_iload H13 rfl at_78 rfl ?_
  refine o_iconst H13 (4 : Int32) rfl at_80 rfl ?_
  refine o_icmp_f H13 at_81 (by decide) rfl ?_
  refine o_aload H13 rfl rfl at_84 rfl ?_
  refine o_iconst H13 (4 : Int32) rfl at_86 rfl ?_
  refine o_lloadN H13 rfl at_87 rfl ?_
  refine o_l2i H13 at_88 rfl ?_
  refine o_i2b H13 at_89 rfl ?_
  refine o_bastore H13 4 f15 (by decide) (Nat.le_of_ble_eq_true rfl) z1 at_90 rfl ?_
  intro T16 h16 H16 W16 A16
  have k17 := k14.wr W16 (Or.inr y1)
  have f18 : oA .byte Z h16 b1 [(.int (own_b0 p2 p3)), (.int (own_b1 p2 p3)), (.int (own_b2 p2 p3)), (.int (own_b3 p2 p3)), (.int (own_b4 p2 p3)), (.int 0), (.int 0), (.int 0), (.int 0)] := A16
  refine o_iload H16 rfl at_91 rfl ?_
  refine o_iconst H16 (5 : Int32) rfl at_93 rfl ?_
  refine o_icmp_f H16 at_94 (by decide) rfl ?_
  refine o_aload H16 rfl rfl at_97 rfl ?_
  refine o_iconst H16 (5 : Int32) rfl at_99 rfl ?_
  refine o_lloadN H16 rfl at_100 rfl ?_
  refine o_bipush H16 (32 : Int32) rfl at_101 rfl ?_
  refine o_lushr H16 at_103 rfl ?_
  refine o_l2i H16 at_104 rfl ?_
  refine o_i2b H16 at_105 rfl ?_
  refine o_bastore H16 5 f18 (by decide) (Nat.le_of_ble_eq_true rfl) z1 at_106 rfl ?_
  intro T19 h19 H19 W19 A19
  have k20 := k17.wr W19 (Or.inr y1)
  have f21 : oA .byte Z h19 b1 [(.int (own_b0 p2 p3)), (.int (own_b1 p2 p3)), (.int (own_b2 p2 p3)), (.int (own_b3 p2 p3)), (.int (own_b4 p2 p3)), (.int (own_b5 p2 p3)), (.int 0), (.int 0), (.int 0)] := A19
  refine o_iload H19 rfl at_107 rfl ?_
  refine o_bipush H19 (6 : Int32) rfl at_109 rfl ?_
  refine o_icmp_f H19 at_111 (by decide) rfl ?_
  refine o_aload H19 rfl rfl at_114 rfl ?_
  refine o_bipush H19 (6 : Int32) rfl at_116 rfl ?_
  refine o_lloadN H19 rfl at_118 rfl ?_
  refine o_bipush H19 (24 : Int32) rfl at_119 rfl ?_
  refine o_lushr H19 at_121 rfl ?_
  refine o_l2i H19 at_122 rfl ?_
  refine o_i2b H19 at_123 rfl ?_
  refine o_bastore H19 6 f21 (by decide) (Nat.le_of_ble_eq_true rfl) z1 at_124 rfl ?_
  intro T22 h22 H22 W22 A22
  have k23 := k20.wr W22 (Or.inr y1)
  have f24 : oA .byte Z h22 b1 [(.int (own_b0 p2 p3)), (.int (own_b1 p2 p3)), (.int (own_b2 p2 p3)), (.int (own_b3 p2 p3)), (.int (own_b4 p2 p3)), (.int (own_b5 p2 p3)), (.int (own_b6 p2 p3)), (.int 0), (.int 0)] := A22
  refine o_iload H22 rfl at_125 rfl ?_
  refine o_bipush H22 (7 : Int32) rfl at_127 rfl ?_
  refine o_icmp_f H22 at_129 (by decide) rfl ?_
  refine o_aload H22 rfl rfl at_132 rfl ?_
  refine o_bipush H22 (7 : Int32) rfl at_134 rfl ?_
  refine o_lloadN H22 rfl at_136 rfl ?_
  refine o_bipush H22 (16 : Int32) rfl at_137 rfl ?_
  refine o_lushr H22 at_139 rfl ?_
  refine o_l2i H22 at_140 rfl ?_
  refine o_i2b H22 at_141 rfl ?_
  refine o_bastore H22 7 f24 (by decide) (Nat.le_of_ble_eq_true rfl) z1 at_142 rfl ?_
  intro T25 h25 H25 W25 A25
  have k26 := k23.wr W25 (Or.inr y1)
  have f27 : oA .byte Z h25 b1 [(.int (own_b0 p2 p3)), (.int (own_b1 p2 p3)), (.int (own_b2 p2 p3)), (.int (own_b3 p2 p3)), (.int (own_b4 p2 p3)), (.int (own_b5 p2 p3)), (.int (own_b6 p2 p3)), (.int (own_b7 p2 p3)), (.int 0)] := A25
  refine o_iload H25 rfl at_143 rfl ?_
  refine o_bipush H25 (8 : Int32) rfl at_145 rfl ?_
  refine o_icmp_f H25 at_147 (by decide) rfl ?_
  refine o_aload H25 rfl rfl at_150 rfl ?_
  refine o_bipush H25 (8 : Int32) rfl at_152 rfl ?_
  refine o_lloadN H25 rfl at_154 rfl ?_
  refine o_bipush H25 (8 : Int32) rfl at_155 rfl ?_
  refine o_lushr H25 at_157 rfl ?_
  refine o_l2i H25 at_158 rfl ?_
  refine o_i2b H25 at_159 rfl ?_
  refine o_bastore H25 8 f27 (by decide) (Nat.le_of_ble_eq_true rfl) z1 at_160 rfl ?_
  intro T28 h28 H28 W28 A28
  have k29 := k26.wr W28 (Or.inr y1)
  have f30 : oA .byte Z h28 b1 [(.int (own_b0 p2 p3)), (.int (own_b1 p2 p3)), (.int (own_b2 p2 p3)), (.int (own_b3 p2 p3)), (.int (own_b4 p2 p3)), (.int (own_b5 p2 p3)), (.int (own_b6 p2 p3)), (.int (own_b7 p2 p3)), (.int (own_b8 p2 p3))] := A28
  refine o_iload H28 rfl at_161 rfl ?_
  refine o_bipush H28 (9 : Int32) rfl at_163 rfl ?_
  refine o_icmp_t H28 at_165 (by decide) (pt := 176) (by decide) (by decide) ?_
  refine o_aload H28 rfl rfl at_176 rfl ?_
  refine o_static H28 [(.ref b1)] [] (rm1_9 l Z a0 hw b1 al cs (own_b0 p2 p3) (own_b1 p2 p3) (own_b2 p2 p3) (own_b3 p2 p3) (own_b4 p2 p3) (own_b5 p2 p3) (own_b6 p2 p3) (own_b7 p2 p3) (own_b8 p2 p3) h28 n0 H28.le f30 (S_a.ext (o_kext k29)) (AL.ext (o_kext k29)) (S_c.ext (o_kext k29)) hcs) (w2 hw) (w3 hw) (w4 hw) (w5 hw) (by decide) (lenOf pd1 rfl) rfl rfl (by decide) (Nat.le_of_ble_eq_true rfl) (by decide) (by decide) at_178 rfl ?_
  intro T31 v31 h31 H31 q31
  obtain ⟨r31, b31, rfl, K31, X31, FC31, FV31, A31⟩ := q31
  have k32 := k29.trans K31 all0
  show oG p e below s n0 _ _ _ (T31.setTop (mkF m 181 #[.val (.int p1), .val (.long p2), .second, .val (.long p3), .second, .val (.int (9 : Int32)), .val (.ref b1), .unset, .unset, .unset, .unset, .unset, .unset, .unset, .unset, .unset] [(.ref r31)]))
  exact rmT l Z a0 hw p1 p2 p3 (9 : Int32) (5 : Int32) (4 : Int32) b1 r31 b31 (own_E_9 p2 p3) cs fm h31 n0 X31 FV31 FC31 A31 (S_c.ext (o_kext k32)) hcs (S_f.ext (o_kext k32)) hfm (by decide) (by decide) (show (15 : Nat).toInt32 = _ by decide) (own_all_9 p2 p3) p e s m below meth c T31 (H31.more (by decide) (by decide))
set_option maxRecDepth 65536 in
set_option maxHeartbeats 40000000 in
theorem rmL_10 (l : Launch) (Z : State) (a0 : Array Value) (hw : ∀ d ∈ tables_1, d.before a0 Z = true) (p1 : Int32) (p2 p3 : Int64) (al : Addr) (cs : Int32) (fm : Value) (h0 : Heap) (n0 : Nat) (Z0 : n0 ≤ h0.size) (S_a : Sta Z h0 "com/example/encase/encase/codec/Base32" "ALPHABET" "[C" (.ref al)) (AL : oA .char Z h0 al own_alist) (S_c : Sta Z h0 "java/lang/String" "COMPACT_STRINGS" "Z" (.int cs)) (hcs : ¬ cs = 0) (S_f : Sta Z h0 "jdk/internal/util/Preconditions" "SIOOBE_FORMATTER" "Ljava/util/function/BiFunction;" fm) (hfm : fm.isRef = true) (p : Program) (e : Env) (s : State) (m : MethodId) (below : List Frame) (meth : Method) (c : Code) (T : State) (H : oH p l e room_1 s m #[.int p1, .long p2, .long p3] below meth c code maxLocals x ret Z n0 T h0 0 0) :
    oG p e below s n0 24 256 (fun v h => v = some (.int 1)) (T.setTop (mkF m 9 #[.val (.int p1), .val (.long p2), .second, .val (.long p3), .second, .val (.int (10 : Int32)), .unset, .unset, .unset, .unset, .unset, .unset, .unset, .unset, .unset, .unset] [])) := by
  refine o_iload H rfl at_9 rfl ?_
  refine o_newarr (aty := .byte) H 10 10 (w1 hw) (by decide) (by decide) (by decide) at_11 rfl (by decide) (by decide) ?_
  intro T1 h1 b1 g1 H1 E1 A1
  have z1 : n0 ≤ b1 := by rw [g1]; exact H.le
  have y1 : h0.size ≤ b1 := by rw [g1]; exact (Keep.refl h0 []).1
  have k2 := (Keep.refl h0 []).ext E1
  have f3 : oA .byte Z h1 b1 [(.int 0), (.int 0), (.int 0), (.int 0), (.int 0), (.int 0), (.int 0), (.int 0), (.int 0), (.int 0)] := A1
  refine o_astore H1 (L' := #[.val (.int p1), .val (.long p2), .second, .val (.long p3), .second, .val (.int (10 : Int32)), .val (.ref b1), .unset, .unset, .unset, .unset, .unset, .unset, .unset, .unset, .unset]) rfl rfl at_13 rfl ?_
  refine o_iload H1 rfl at_15 rfl ?_
  refine o_if_f H1 at_17 (by decide) rfl ?_
  refine o_aload H1 rfl rfl at_20 rfl ?_
  refine o_iconst H1 (0 : Int32) rfl at_22 rfl ?_
  refine o_lloadN H1 rfl at_23 rfl ?_
  refine o_bipush H1 (32 : Int32) rfl at_24 rfl ?_
  refine o_lushr H1 at_26 rfl ?_
  refine o_l2i H1 at_27 rfl ?_
  refine o_i2b H1 at_28 rfl ?_
  refine o_bastore H1 0 f3 (by decide) (Nat.le_of_ble_eq_true rfl) z1 at_29 rfl ?_
  intro T4 h4 H4 W4 A4
  have k5 := k2.wr W4 (Or.inr y1)
  have f6 : oA .byte Z h4 b1 [(.int (own_b0 p2 p3)), (.int 0), (.int 0), (.int 0), (.int 0), (.int 0), (.int 0), (.int 0), (.int 0), (.int 0)] := A4
  refine o_iload H4 rfl at_30 rfl ?_
  refine o_iconst H4 (1 : Int32) rfl at_32 rfl ?_
  refine o_icmp_f H4 at_33 (by decide) rfl ?_
  refine o_aload H4 rfl rfl at_36 rfl ?_
  refine o_iconst H4 (1 : Int32) rfl at_38 rfl ?_
  refine o_lloadN H4 rfl at_39 rfl ?_
  refine o_bipush H4 (24 : Int32) rfl at_40 rfl ?_
  refine o_lushr H4 at_42 rfl ?_
  refine o_l2i H4 at_43 rfl ?_
  refine o_i2b H4 at_44 rfl ?_
  refine o_bastore H4 1 f6 (by decide) (Nat.le_of_ble_eq_true rfl) z1 at_45 rfl ?_
  intro T7 h7 H7 W7 A7
  have k8 := k5.wr W7 (Or.inr y1)
  have f9 : oA .byte Z h7 b1 [(.int (own_b0 p2 p3)), (.int (own_b1 p2 p3)), (.int 0), (.int 0), (.int 0), (.int 0), (.int 0), (.int 0), (.int 0), (.int 0)] := A7
  refine o_iload H7 rfl at_46 rfl ?_
  refine o_iconst H7 (2 : Int32) rfl at_48 rfl ?_
  refine o_icmp_f H7 at_49 (by decide) rfl ?_
  refine o_aload H7 rfl rfl at_52 rfl ?_
  refine o_iconst H7 (2 : Int32) rfl at_54 rfl ?_
  refine o_lloadN H7 rfl at_55 rfl ?_
  refine o_bipush H7 (16 : Int32) rfl at_56 rfl ?_
  refine o_lushr H7 at_58 rfl ?_
  refine o_l2i H7 at_59 rfl ?_
  refine o_i2b H7 at_60 rfl ?_
  refine o_bastore H7 2 f9 (by decide) (Nat.le_of_ble_eq_true rfl) z1 at_61 rfl ?_
  intro T10 h10 H10 W10 A10
  have k11 := k8.wr W10 (Or.inr y1)
  have f12 : oA .byte Z h10 b1 [(.int (own_b0 p2 p3)), (.int (own_b1 p2 p3)), (.int (own_b2 p2 p3)), (.int 0), (.int 0), (.int 0), (.int 0), (.int 0), (.int 0), (.int 0)] := A10
  refine o_iload H10 rfl at_62 rfl ?_
  refine o_iconst H10 (3 : Int32) rfl at_64 rfl ?_
  refine o_icmp_f H10 at_65 (by decide) rfl ?_
  refine o_aload H10 rfl rfl at_68 rfl ?_
  refine o_iconst H10 (3 : Int32) rfl at_70 rfl ?_
  refine o_lloadN H10 rfl at_71 rfl ?_
  refine o_bipush H10 (8 : Int32) rfl at_72 rfl ?_
  refine o_lushr H10 at_74 rfl ?_
  refine o_l2i H10 at_75 rfl ?_
  refine o_i2b H10 at_76 rfl ?_
  refine o_bastore H10 3 f12 (by decide) (Nat.le_of_ble_eq_true rfl) z1 at_77 rfl ?_
  intro T13 h13 H13 W13 A13
  have k14 := k11.wr W13 (Or.inr y1)
  have f15 : oA .byte Z h13 b1 [(.int (own_b0 p2 p3)), (.int (own_b1 p2 p3)), (.int (own_b2 p2 p3)), (.int (own_b3 p2 p3)), (.int 0), (.int 0), (.int 0), (.int 0), (.int 0), (.int 0)] := A13
  refine o_iload H13 rfl at_78 rfl ?_
  refine o_iconst H13 (4 : Int32) rfl at_80 rfl ?_
  refine o_icmp_f H13 at_81 (by decide) rfl ?_
  refine o_aload H13 rfl rfl at_84 rfl ?_
  refine o_iconst H13 (4 : Int32) rfl at_86 rfl ?_
  refine o_lloadN H13 rfl at_87 rfl ?_
  refine o_l2i H13 at_88 rfl ?_
  refine o_i2b H13 at_89 rfl ?_
  refine o_bastore H13 4 f15 (by decide) (Nat.le_of_ble_eq_true rfl) z1 at_90 rfl ?_
  intro T16 h16 H16 W16 A16
  have k17 := k14.wr W16 (Or.inr y1)
  have f18 : oA .byte Z h16 b1 [(.int (own_b0 p2 p3)), (.int (own_b1 p2 p3)), (.int (own_b2 p2 p3)), (.int (own_b3 p2 p3)), (.int (own_b4 p2 p3)), (.int 0), (.int 0), (.int 0), (.int 0), (.int 0)] := A16
  refine o_iload H16 rfl at_91 rfl ?_
  refine o_iconst H16 (5 : Int32) rfl at_93 rfl ?_
  refine o_icmp_f H16 at_94 (by decide) rfl ?_
  refine o_aload H16 rfl rfl at_97 rfl ?_
  refine o_iconst H16 (5 : Int32) rfl at_99 rfl ?_
  refine o_lloadN H16 rfl at_100 rfl ?_
  refine o_bipush H16 (32 : Int32) rfl at_101 rfl ?_
  refine o_lushr H16 at_103 rfl ?_
  refine o_l2i H16 at_104 rfl ?_
  refine o_i2b H16 at_105 rfl ?_
  refine o_bastore H16 5 f18 (by decide) (Nat.le_of_ble_eq_true rfl) z1 at_106 rfl ?_
  intro T19 h19 H19 W19 A19
  have k20 := k17.wr W19 (Or.inr y1)
  have f21 : oA .byte Z h19 b1 [(.int (own_b0 p2 p3)), (.int (own_b1 p2 p3)), (.int (own_b2 p2 p3)), (.int (own_b3 p2 p3)), (.int (own_b4 p2 p3)), (.int (own_b5 p2 p3)), (.int 0), (.int 0), (.int 0), (.int 0)] := A19
  refine o_iload H19 rfl at_107 rfl ?_
  refine o_bipush H19 (6 : Int32) rfl at_109 rfl ?_
  refine o_icmp_f H19 at_111 (by decide) rfl ?_
  refine o_aload H19 rfl rfl at_114 rfl ?_
  refine o_bipush H19 (6 : Int32) rfl at_116 rfl ?_
  refine o_lloadN H19 rfl at_118 rfl ?_
  refine o_bipush H19 (24 : Int32) rfl at_119 rfl ?_
  refine o_lushr H19 at_121 rfl ?_
  refine o_l2i H19 at_122 rfl ?_
  refine o_i2b H19 at_123 rfl ?_
  refine o_bastore H19 6 f21 (by decide) (Nat.le_of_ble_eq_true rfl) z1 at_124 rfl ?_
  intro T22 h22 H22 W22 A22
  have k23 := k20.wr W22 (Or.inr y1)
  have f24 : oA .byte Z h22 b1 [(.int (own_b0 p2 p3)), (.int (own_b1 p2 p3)), (.int (own_b2 p2 p3)), (.int (own_b3 p2 p3)), (.int (own_b4 p2 p3)), (.int (own_b5 p2 p3)), (.int (own_b6 p2 p3)), (.int 0), (.int 0), (.int 0)] := A22
  refine o_iload H22 rfl at_125 rfl ?_
  refine o_bipush H22 (7 : Int32) rfl at_127 rfl ?_
  refine o_icmp_f H22 at_129 (by decide) rfl ?_
  refine o_aload H22 rfl rfl at_132 rfl ?_
  refine o_bipush H22 (7 : Int32) rfl at_134 rfl ?_
  refine o_lloadN H22 rfl at_136 rfl ?_
  refine o_bipush H22 (16 : Int32) rfl at_137 rfl ?_
  refine o_lushr H22 at_139 rfl ?_
  refine o_l2i H22 at_140 rfl ?_
  refine o_i2b H22 at_141 rfl ?_
  refine o_bastore H22 7 f24 (by decide) (Nat.le_of_ble_eq_true rfl) z1 at_142 rfl ?_
  intro T25 h25 H25 W25 A25
  have k26 := k23.wr W25 (Or.inr y1)
  have f27 : oA .byte Z h25 b1 [(.int (own_b0 p2 p3)), (.int (own_b1 p2 p3)), (.int (own_b2 p2 p3)), (.int (own_b3 p2 p3)), (.int (own_b4 p2 p3)), (.int (own_b5 p2 p3)), (.int (own_b6 p2 p3)), (.int (own_b7 p2 p3)), (.int 0), (.int 0)] := A25
  refine o_iload H25 rfl at_143 rfl ?_
  refine o_bipush H25 (8 : Int32) rfl at_145 rfl ?_
  refine o_icmp_f H25 at_147 (by decide) rfl ?_
  refine o_aload H25 rfl rfl at_150 rfl ?_
  refine o_bipush H25 (8 : Int32) rfl at_152 rfl ?_
  refine o_lloadN H25 rfl at_154 rfl ?_
  refine o_bipush H25 (8 : Int32) rfl at_155 rfl ?_
  refine o_lushr H25 at_157 rfl ?_
  refine o_l2i H25 at_158 rfl ?_
  refine o_i2b H25 at_159 rfl ?_
  refine o_bastore H25 8 f27 (by decide) (Nat.le_of_ble_eq_true rfl) z1 at_160 rfl ?_
  intro T28 h28 H28 W28 A28
  have k29 := k26.wr W28 (Or.inr y1)
  have f30 : oA .byte Z h28 b1 [(.int (own_b0 p2 p3)), (.int (own_b1 p2 p3)), (.int (own_b2 p2 p3)), (.int (own_b3 p2 p3)), (.int (own_b4 p2 p3)), (.int (own_b5 p2 p3)), (.int (own_b6 p2 p3)), (.int (own_b7 p2 p3)), (.int (own_b8 p2 p3)), (.int 0)] := A28
  refine o_iload H28 rfl at_161 rfl ?_
  refine o_bipush H28 (9 : Int32) rfl at_163 rfl ?_
  refine o_icmp_f H28 at_165 (by decide) rfl ?_
  refine o_aload H28 rfl rfl at_168 rfl ?_
  refine o_bipush H28 (9 : Int32) rfl at_170 rfl ?_
  refine o_lloadN H28 rfl at_172 rfl ?_
  refine o_l2i H28 at_173 rfl ?_
  refine o_i2b H28 at_174 rfl ?_
  refine o_bastore H28 9 f30 (by decide) (Nat.le_of_ble_eq_true rfl) z1 at_175 rfl ?_
  intro T31 h31 H31 W31 A31
  have k32 := k29.wr W31 (Or.inr y1)
  have f33 : oA .byte Z h31 b1 [(.int (own_b0 p2 p3)), (.int (own_b1 p2 p3)), (.int (own_b2 p2 p3)), (.int (own_b3 p2 p3)), (.int (own_b4 p2 p3)), (.int (own_b5 p2 p3)), (.int (own_b6 p2 p3)), (.int (own_b7 p2 p3)), (.int (own_b8 p2 p3)), (.int (own_b9 p2 p3))] := A31
  refine o_aload H31 rfl rfl at_176 rfl ?_
  refine o_static H31 [(.ref b1)] [] (rm1_10 l Z a0 hw b1 al cs (own_b0 p2 p3) (own_b1 p2 p3) (own_b2 p2 p3) (own_b3 p2 p3) (own_b4 p2 p3) (own_b5 p2 p3) (own_b6 p2 p3) (own_b7 p2 p3) (own_b8 p2 p3) (own_b9 p2 p3) h31 n0 H31.le f33 (S_a.ext (o_kext k32)) (AL.ext (o_kext k32)) (S_c.ext (o_kext k32)) hcs) (w2 hw) (w3 hw) (w4 hw) (w5 hw) (by decide) (lenOf pd1 rfl) rfl rfl (by decide) (Nat.le_of_ble_eq_true rfl) (by decide) (by decide) at_178 rfl ?_
  intro T34 v34 h34 H34 q34
  obtain ⟨r34, b34, rfl, K34, X34, FC34, FV34, A34⟩ := q34
  have k35 := k32.trans K34 all0
  show oG p e below s n0 _ _ _ (T34.setTop (mkF m 181 #[.val (.int p1), .val (.long p2), .second, .val (.long p3), .second, .val (.int (10 : Int32)), .val (.ref b1), .unset, .unset, .unset, .unset, .unset, .unset, .unset, .unset, .unset] [(.ref r34)]))
  exact rmT l Z a0 hw p1 p2 p3 (10 : Int32) (5 : Int32) (5 : Int32) b1 r34 b34 (own_E_10 p2 p3) cs fm h34 n0 X34 FV34 FC34 A34 (S_c.ext (o_kext k35)) hcs (S_f.ext (o_kext k35)) hfm (by decide) (by decide) (show (16 : Nat).toInt32 = _ by decide) (own_all_10 p2 p3) p e s m below meth c T34 (H34.more (by decide) (by decide))
set_option maxRecDepth 65536 in
set_option maxHeartbeats 40000000 in
theorem rm0 (l : Launch) (Z : State) (a0 : Array Value) (hw : ∀ d ∈ tables_1, d.before a0 Z = true) (p1 : Int32) (p2 : Int64) (p3 : Int64) (al : Addr) (cs : Int32) (fm : Value) (h0 : Heap) (n0 : Nat) (Z0 : n0 ≤ h0.size) (S_a : Sta Z h0 "com/example/encase/encase/codec/Base32" "ALPHABET" "[C" (.ref al)) (AL : oA .char Z h0 al own_alist) (S_c : Sta Z h0 "java/lang/String" "COMPACT_STRINGS" "Z" (.int cs)) (hcs : ¬ cs = 0) (S_f : Sta Z h0 "jdk/internal/util/Preconditions" "SIOOBE_FORMATTER" "Ljava/util/function/BiFunction;" fm) (hfm : fm.isRef = true) :
    oC l Z n0 x code maxLocals ret room_1 24 256 #[(.int p1), (.long p2), (.long p3)] h0 (fun v h => v = some (.int 1)) := by
  refine oC.of (L := #[.val (.int p1), .val (.long p2), .second, .val (.long p3), .second, .unset, .unset, .unset, .unset, .unset, .unset, .unset, .unset, .unset, .unset, .unset]) pn0 Z0 (fun m => by first | (simp [entryFrame, mkF, argsToLocals, Value.category, maxLocals]; done) | rfl) ?_
  intro p e s m below meth c T H
  refine o_iloadN H rfl at_0 rfl ?_
  refine o_ldcI H (2147483647 : Int32) (w0 hw) at_1 rfl ?_
  refine o_iand H at_3 rfl ?_
  refine o_bipush H (11 : Int32) rfl at_4 rfl ?_
  refine o_irem H (by decide) at_6 rfl ?_
  refine o_istore H (L' := #[.val (.int p1), .val (.long p2), .second, .val (.long p3), .second, .val (.int ((p1 &&& (2147483647 : Int32)) % (11 : Int32))), .unset, .unset, .unset, .unset, .unset, .unset, .unset, .unset, .unset, .unset]) rfl at_7 rfl ?_
  obtain ⟨kl, e_kl⟩ : ∃ z : Int32, z = ((p1 &&& (2147483647 : Int32)) % (11 : Int32)) := ⟨_, rfl⟩
  rw [← e_kl]
  have r_kl := own_r11 p1
  rw [← e_kl] at r_kl
  clear e_kl
  obtain ⟨⟨i, hi⟩, rfl⟩ := n_nat kl 11 r_kl.1 r_kl.2
  have ci : i = 0 ∨ i = 1 ∨ i = 2 ∨ i = 3 ∨ i = 4 ∨ i = 5 ∨ i = 6 ∨ i = 7 ∨ i = 8 ∨ i = 9 ∨ i = 10 := by omega
  rcases ci with rfl | rfl | rfl | rfl | rfl | rfl | rfl | rfl | rfl | rfl | rfl
  · exact rmL_0 l Z a0 hw p1 p2 p3 al cs fm h0 n0 Z0 S_a AL S_c hcs S_f hfm p e s m below meth c _ H
  · exact rmL_1 l Z a0 hw p1 p2 p3 al cs fm h0 n0 Z0 S_a AL S_c hcs S_f hfm p e s m below meth c _ H
  · exact rmL_2 l Z a0 hw p1 p2 p3 al cs fm h0 n0 Z0 S_a AL S_c hcs S_f hfm p e s m below meth c _ H
  · exact rmL_3 l Z a0 hw p1 p2 p3 al cs fm h0 n0 Z0 S_a AL S_c hcs S_f hfm p e s m below meth c _ H
  · exact rmL_4 l Z a0 hw p1 p2 p3 al cs fm h0 n0 Z0 S_a AL S_c hcs S_f hfm p e s m below meth c _ H
  · exact rmL_5 l Z a0 hw p1 p2 p3 al cs fm h0 n0 Z0 S_a AL S_c hcs S_f hfm p e s m below meth c _ H
  · exact rmL_6 l Z a0 hw p1 p2 p3 al cs fm h0 n0 Z0 S_a AL S_c hcs S_f hfm p e s m below meth c _ H
  · exact rmL_7 l Z a0 hw p1 p2 p3 al cs fm h0 n0 Z0 S_a AL S_c hcs S_f hfm p e s m below meth c _ H
  · exact rmL_8 l Z a0 hw p1 p2 p3 al cs fm h0 n0 Z0 S_a AL S_c hcs S_f hfm p e s m below meth c _ H
  · exact rmL_9 l Z a0 hw p1 p2 p3 al cs fm h0 n0 Z0 S_a AL S_c hcs S_f hfm p e s m below meth c _ H
  · exact rmL_10 l Z a0 hw p1 p2 p3 al cs fm h0 n0 Z0 S_a AL S_c hcs S_f hfm p e s m below meth c _ H
theorem own_alp {args : Array Value} {s : State} {t : Term} {al : Addr} {ac : Cell} (hfit : Fit s) (ht : ∀ idx, t.eval args s none idx s = some (.ref al)) (AC : Arr s s.heap al ac .char)
    (n2 : (Cond.eq (Term.length t) (Term.int 32)).value args s none s [] = some true)
    (n4 : (Cond.all t (Cond.or (Cond.le (Term.int 26) (Term.index 0)) (Cond.eq (Term.op1 .i2l (Term.elem t (Term.index 0))) (Term.op2 .ladd (Term.op1 .i2l (Term.index 0)) (Term.long 97))))).value args s none s [] = some true)
    (n5 : (Cond.all t (Cond.or (Cond.lt (Term.index 0) (Term.int 26)) (Cond.eq (Term.op1 .i2l (Term.elem t (Term.index 0))) (Term.op2 .ladd (Term.op1 .i2l (Term.index 0)) (Term.long 24))))).value args s none s [] = some true) : oA .char s s.heap al own_alist := by
  have k6 := eqv_i (Term.int_eval 32) n2
  have ha := AC.fin (Vm.Alike.refl _)
  have hb : ac.slots.size < 2 ^ 31 := by
    apply Nat.lt_of_not_le; intro hge
    simp [Term.eval, ht, ha, Nat.not_lt.mpr hge] at k6
  have hsz : ac.slots.size = 32 := by
    obtain ⟨ca', cl', e1, e2, e3⟩ := Term.length_spec k6
    cases (ht _).symm.trans e1
    cases ha.symm.trans e2
    have e4 : (32 : Int32) = Int32.ofNat ac.slots.size := by injection e3
    have e5 := congrArg Int32.toInt e4
    rw [o_ofNat hb] at e5
    have e6 : (32 : Int32).toInt = 32 := rfl
    omega
  have el : ∀ k : Nat, k < 32 → ac.slots[k]? = some (.int (own_al (Int32.ofNat k))) := by
    intro k hk
    have hn : (Int32.ofNat k).toInt = k := o_ofNat (by omega)
    have e26 : (26 : Int32).toInt = 26 := rfl
    have h0 : ¬ Int32.ofNat k < 0 := by rw [n_lt, hn]; have e0 : (0 : Int32).toInt = 0 := rfl; omega
    have hc : (Int32.ofNat k).toNatClampNeg = k := by simp only [Int32.toNatClampNeg]; rw [hn]; omega
    obtain ⟨v, hv, hf⟩ := elem_fit (j := Int32.ofNat k) hfit AC (by rintro (q | q); exact h0 q; rw [hc, hsz] at q; omega)
    obtain ⟨z, rfl⟩ := fit_I hf (by simp)
    rw [hc] at hv
    have ei : (Term.index 0).eval args s none [k] s = some (.int (Int32.ofNat k)) := Term.index_eval k
    have ee : (Term.elem t (Term.index 0)).eval args s none [k] s = some (.int z) := (elem_f (ht _) ei ha h0).trans (by rw [hc]; exact hv)
    have e1 := i2l_at ee
    have e2 := i2l_at ei
    have key : ∀ d : Int64, ∀ d' : Int32, d.toInt32 = d' → (Cond.eq (Term.op1 .i2l (Term.elem t (Term.index 0))) (Term.op2 .ladd (Term.op1 .i2l (Term.index 0)) (Term.long d))).value args s none s [k] = some true → z = Int32.ofNat k + d' := by
      intro d d' hd q
      have e3 : (Term.op2 .ladd (Term.op1 .i2l (Term.index 0)) (Term.long d)).eval args s none [k] s = some (.long ((Int32.ofNat k).toInt64 + d)) := by simp [Term.eval, e2, Binary.apply] <;> rfl
      have e4 := e1.symm.trans (eqv_l e3 q)
      have e5 : z.toInt64 = (Int32.ofNat k).toInt64 + d := by injection e4 with e4; injection e4
      have e6 := congrArg Int64.toInt32 e5
      rw [Int64.toInt32_add, hd] at e6
      simpa using e6
    rw [hv]; congr 2
    have u1 := Cond.all_elim (ht _) ha n4 k (by omega)
    have u2 := Cond.all_elim (ht _) ha n5 k (by omega)
    simp only [own_al]
    by_cases h26 : Int32.ofNat k < 26
    · rw [if_pos h26]
      have q : ¬ (26 : Int32) ≤ Int32.ofNat k := by rw [Int32.le_iff_toInt_le]; rw [n_lt] at h26; omega
      refine key 97 97 rfl ?_
      have c1 := Cond.le_ints (args := args) (first := s) (o := none) (idx := [k]) (s := s) (Term.int_eval 26) ei
      simp only [Cond.value] at u1 c1 ⊢
      simpa [c1, q] using u1
    · rw [if_neg h26]
      refine key 24 24 rfl ?_
      have c1 := Cond.lt_ints (args := args) (first := s) (o := none) (idx := [k]) (s := s) ei (Term.int_eval 26)
      simp only [Cond.value] at u2 c1 ⊢
      simpa [c1, h26] using u2
  refine ⟨by decide, ac, AC, ?_⟩
  apply Array.ext_getElem?
  intro k
  by_cases hk : k < 32
  · rw [el k hk]; simp [own_alist, hk]
  · rw [Array.getElem?_eq_none (by omega), List.getElem?_toArray, List.getElem?_eq_none]
    simp only [own_alist, List.length_map, List.length_range]; omega
set_option maxRecDepth 65536 in
set_option maxHeartbeats 40000000 in
theorem comes_1 {Post : Tables → Env → Array Value → State → Outcome → State → Prop} (hpost : ∀ tb e args s v u, (limb_1_1.after args s (.returned v) u = true ∧ limb_1_2.after args s (.returned v) u = true ∧ True) → FrameEnd s (.returned v) u (Jvm.fieldLocs frame_1_writes args s ++ Jvm.arrayLocs frame_1_arrays args s ++ Jvm.staticLocs frame_1_statics s) 24 256 → Post tb e args s (.returned v) u) :
    ArmFor flags0 classFile x code maxLocals ret World_1 tables_1 room_1 Calls_1 rest_1 Pre_1 Post := by
  intro l hfl _ _ p e ha hc hk s m args below hf hA hF happ hP
  obtain ⟨hcalls, hrest, hpre⟩ := hP
  obtain ⟨-, -, -, hnamed, -, -, -, hat⟩ := (Spec.applies_iff hf).mp happ
  obtain ⟨hg, hn⟩ := and_e (Cond.before_iff.mp (show (Jvm.Cond.and given_1 narrow_1).before args s = true from hpre))
  obtain ⟨g0, gs0⟩ := and_e hg
  obtain ⟨a0, gs1⟩ := and_e gs0
  obtain ⟨a1, gs2⟩ := and_e gs1
  have a2 := gs2
  obtain ⟨w0, w1, w2, rfl⟩ : ∃ w0 w1 w2 : Value, args = #[w0, w1, w2] := by
    have hs : args.size = 3 := by simpa [Cond.value, given_1] using g0
    obtain ⟨L⟩ := args
    match L, hs with
    | [w0, w1, w2], _ => exact ⟨w0, w1, w2, rfl⟩
  have hw := fun d (hd : d ∈ tables_1) => atoms_spec (ws := Jvm.Cond.code x code maxLocals ret :: tables_1) hat d (List.mem_cons_of_mem _ hd)
  have hfit : Fit s := fun {y c} hc i hi => by
    obtain ⟨ha, rfl⟩ := Array.getElem?_eq_some_iff.mp hc
    have q := List.all_eq_true.mp ((Array.all_eq_true_iff_forall_mem.mp hF) _ (Array.getElem_mem ha)) i (List.mem_range.mpr hi)
    simpa [Array.getElem?_eq_getElem hi] using q
  obtain ⟨i0, e0⟩ := is_v a0
  obtain rfl : w0 = (.int i0) := Option.some.inj e0
  obtain ⟨i1, e1⟩ := isL_v a1
  obtain rfl : w1 = (.long i1) := Option.some.inj e1
  obtain ⟨i2, e2⟩ := isL_v a2
  obtain rfl : w2 = (.long i2) := Option.some.inj e2
  obtain ⟨hsets, hown0⟩ := atoms_of _ (rest_1_c_eq ▸ (show rest_1_c.before _ s = true from hrest))
  have n3 := not_v (Cond.before_iff.mp (hsets _ (List.mem_of_getElem? (i := 2) rfl)))
  obtain ⟨cs, ec⟩ := is_v (Cond.before_iff.mp (hsets _ (List.mem_of_getElem? (i := 1) rfl)))
  have S_c : Sta s s.heap "java/lang/String" "COMPACT_STRINGS" "Z" (.int cs) := Sta.start ec (Or.inl (hsets _ (List.mem_of_getElem? (i := 0) rfl)))
  have hcs : ¬ (cs = (0 : Int32)) := gotF (Cond.eq_ints ec (Term.int_eval (0))) n3
  obtain ⟨fm, ef, hfm⟩ := isR_v (Cond.before_iff.mp (hsets _ (List.mem_of_getElem? (i := 8) rfl)))
  have S_f : Sta s s.heap "jdk/internal/util/Preconditions" "SIOOBE_FORMATTER" "Ljava/util/function/BiFunction;" fm := Sta.start ef (Or.inl (hsets _ (List.mem_of_getElem? (i := 7) rfl)))
  obtain ⟨m1, hm2⟩ := and_e hn
  obtain ⟨m2, hm3⟩ := and_e hm2
  obtain ⟨m4, m5⟩ := and_e hm3
  obtain ⟨al, ea⟩ := arr_v m1
  obtain ⟨ac, AC⟩ := Arr.start ea m1
  have S_a : Sta s s.heap "com/example/encase/encase/codec/Base32" "ALPHABET" "[C" (.ref al) := Sta.start ea (Or.inr ⟨(hw _ (List.mem_of_getElem? (i := 4) rfl)), (hw _ (List.mem_of_getElem? (i := 116) rfl))⟩)
  have AL := own_alp hfit (fun idx => by simpa [Term.eval] using ea) AC m2 m4 m5
  obtain ⟨n, o, h1, h2, h3, _, L, rfl, ⟨rfl, N⟩, hq⟩ := rm0 l s _ hw i0 i1 i2 al cs fm s.heap s.heap.size (Nat.le_refl _) S_a AL S_c hcs S_f hfm tables_1 p e ha hc hk s m _ below hf ((Spec.applies_iff_loose hf).mp happ).1 ⟨rfl, State.Warmed39.refl s, rfl⟩ trivial
  refine ⟨n, _, h1, h2, h3, hpost _ _ _ _ _ _ ⟨Cond.after_iff.mpr rfl, Cond.after_iff.mpr (eq_i res_at (Term.int_eval (1)) rfl), trivial⟩ ⟨hq.1, hq.2.1, (hq.2.2.sift fun y hy => Or.inr (N y hy)).mono (by decide) (by decide)⟩⟩
theorem main_1_1 : Claimed_1_1 := comes_1 fun _ _ _ _ _ _ h hF => ⟨h.1, hF⟩
theorem main_1_2 : Claimed_1_2 := comes_1 fun _ _ _ _ _ _ h hF => ⟨h.2.1, hF⟩
end Jvm.Pilot.@@N@@
namespace Jvm.Pilot.@@N@@
open Jvm Jvm.ClassFile Sem Op Lib Jvm.Free Jvm.Stand Jvm.Pilot.@@N@@.Jvm.D
/-! MADE BY PROGRAM (witnessworld.py) out of the Statement's table words and the real class files: 24 classes; the members and pool entries that the words name. The judged class is class 1, her method 1. -/
namespace start1
open Jvm.ClassFile
def u (s : String) : CpInfo := .utf8 (stringToUtf16 s)
/-- a pool by its gaps: so many unusable entries, then the entry; so many at the end -/
def gap : Nat → List CpInfo → List CpInfo
  | 0, r => r
  | n + 1, r => .unusable :: gap n r
def poolList (es : List (Nat × CpInfo)) (last : Nat) : List CpInfo := es.foldr (fun e r => gap e.1 (e.2 :: r)) (gap last [])
def pool (es : List (Nat × CpInfo)) (last : Nat) : Array CpInfo := ⟨poolList es last⟩
def fileOf (pool : Array CpInfo) (this : Nat) (attrs : Array Attribute := #[]) (ms : Array MethodInfo := #[]) (fl : Nat := 33) (sup : Nat := 0) (ifs : Array Nat := #[]) (fds : Array FieldInfo := #[]) : ClassFile where
  minorVersion := 0
  majorVersion := 65
  constantPool := pool
  accessFlags := fl
  thisClass := this
  superClass := sup
  interfaces := ifs
  fields := fds
  methods := ms
  attributes := attrs
def plain (name : String) (sup : Option ClassId) : Class where
  name := name
  kind := .ordinary
  loader := none
  accessFlags := 33
  super := sup
  interfaces := #[]
  cf := none
  fields := #[]
  methods := #[]
  instanceTypes := #[]
  staticTypes := #[]
  resolved := #[]
  callSites := []
  init := .initialized
  statics := none
  mirror := none

def pool0 : Array CpInfo := pool [(5, u "<init>"), (0, u "()V"), (1, .class_ 10), (1, u "java/lang/Object"), (85, u "clone"), (0, u "()Ljava/lang/Object;")] 26

def k0c0 : Code := { maxStack := 0, maxLocals := 1, code := object_method_1_code, exceptionTable := #[], attributes := #[] }
def k0m0 : Method := { name := "<init>", desc := "()V", sig := { parameters := [], returnType := none }, accessFlags := 1, code := some k0c0 }
def k0m1 : Method := { name := "clone", desc := "()Ljava/lang/Object;", sig := { parameters := [], returnType := some (.object "java/lang/Object") }, accessFlags := 260, code := none }
/-- java/lang/Object -/
def k0 : Class := { plain "java/lang/Object" none with
  accessFlags := 33
  interfaces := #[]
  cf := some (fileOf pool0 8 #[] #[{ accessFlags := 1, nameIndex := 5, descriptorIndex := 6, attributes := #[] }, { accessFlags := 260, nameIndex := 96, descriptorIndex := 97, attributes := #[] }] 33 0 #[] #[])
  fields := #[]
  methods := #[k0m0, k0m1]
  instanceTypes := #[]
  staticTypes := #[]
  resolved := Array.replicate 124 none
  statics := none }

def pool1 : Array CpInfo := pool [(2, .class_ 4), (1, u "java/lang/Object"), (0, u "<init>"), (0, u "()V"), (0, .integer 2147483647), (0, .methodref 9 10), (0, .class_ 11), (0, .nameAndType 12 13), (0, u "com/example/encase/encase/codec/Base32"), (0, u "encode"), (0, u "([B)Ljava/lang/String;"), (0, .methodref 15 16), (0, .class_ 17), (0, .nameAndType 18 19), (0, u "java/lang/Math"), (0, u "min"), (0, u "(II)I"), (0, .methodref 15 21), (0, .nameAndType 22 19), (0, u "max"), (0, .methodref 24 25), (0, .class_ 26), (0, .nameAndType 27 28), (0, u "com/example/encase/encase/codec/Base32EncodePinLaw"), (0, u "keep"), (0, u "(JI)J"), (0, .methodref 24 30), (0, .nameAndType 31 32), (0, u "g"), (0, u "(JI)I"), (0, .methodref 24 34), (0, .nameAndType 35 36), (0, u "sym"), (0, u "(I)C"), (0, .methodref 38 39), (0, .class_ 40), (0, .nameAndType 41 42), (0, u "java/lang/String"), (0, u "length"), (0, u "()I"), (0, .methodref 24 44), (0, .nameAndType 45 46), (0, u "at"), (0, u "(Ljava/lang/String;[CII)Z"), (0, .long 1099511627775), (1, .long 18446744073709551615), (1, .long 31), (1, .methodref 38 54), (0, .nameAndType 55 36), (0, u "charAt"), (2, u "law"), (0, u "(IJJ)Z")] 7

def k1m0 : Method := { name := "<init>", desc := "()V", sig := { parameters := [], returnType := none }, accessFlags := 1, code := none }
def k1c1 : Code := { maxStack := 5, maxLocals := 16, code := code, exceptionTable := #[], attributes := #[] }
def k1m1 : Method := { name := "law", desc := "(IJJ)Z", sig := { parameters := [.int, .long, .long], returnType := some .boolean }, accessFlags := 9, code := some k1c1 }
def k1c2 : Code := { maxStack := 6, maxLocals := 7, code := method_3_code, exceptionTable := #[], attributes := #[] }
def k1m2 : Method := { name := "keep", desc := "(JI)J", sig := { parameters := [.long, .int], returnType := some .long }, accessFlags := 10, code := some k1c2 }
def k1c3 : Code := { maxStack := 5, maxLocals := 3, code := method_4_code, exceptionTable := #[], attributes := #[] }
def k1m3 : Method := { name := "g", desc := "(JI)I", sig := { parameters := [.long, .int], returnType := some .int }, accessFlags := 10, code := some k1c3 }
def k1c4 : Code := { maxStack := 3, maxLocals := 1, code := method_5_code, exceptionTable := #[], attributes := #[] }
def k1m4 : Method := { name := "sym", desc := "(I)C", sig := { parameters := [.int], returnType := some .char }, accessFlags := 10, code := some k1c4 }
def k1c5 : Code := { maxStack := 3, maxLocals := 4, code := method_6_code, exceptionTable := #[], attributes := #[] }
def k1m5 : Method := { name := "at", desc := "(Ljava/lang/String;[CII)Z", sig := { parameters := [(.object "java/lang/String"), (.array .char), .int, .int], returnType := some .boolean }, accessFlags := 10, code := some k1c5 }
/-- com/example/encase/encase/codec/Base32EncodePinLaw -/
def k1 : Class := { plain "com/example/encase/encase/codec/Base32EncodePinLaw" (some 0) with
  accessFlags := 49
  interfaces := #[]
  cf := some (fileOf pool1 24 #[] #[{ accessFlags := 1, nameIndex := 5, descriptorIndex := 6, attributes := #[] }, { accessFlags := 9, nameIndex := 58, descriptorIndex := 59, attributes := #[] }, { accessFlags := 10, nameIndex := 27, descriptorIndex := 28, attributes := #[] }, { accessFlags := 10, nameIndex := 31, descriptorIndex := 32, attributes := #[] }, { accessFlags := 10, nameIndex := 35, descriptorIndex := 36, attributes := #[] }, { accessFlags := 10, nameIndex := 45, descriptorIndex := 46, attributes := #[] }] 49 2 #[] #[])
  fields := #[]
  methods := #[k1m0, k1m1, k1m2, k1m3, k1m4, k1m5]
  instanceTypes := #[]
  staticTypes := #[]
  resolved := Array.replicate 67 none
  statics := none }

def pool2 : Array CpInfo := pool [(2, .class_ 4), (1, u "java/lang/Object"), (0, u "<init>"), (0, u "()V"), (0, .class_ 8), (0, u "java/lang/StringBuilder"), (0, .methodref 7 10), (0, .nameAndType 5 11), (0, u "(I)V"), (0, .fieldref 13 14), (0, .class_ 15), (0, .nameAndType 16 17), (0, u "com/example/encase/encase/codec/Base32"), (0, u "ALPHABET"), (0, u "[C"), (0, .methodref 7 19), (0, .nameAndType 20 21), (0, u "append"), (0, u "(C)Ljava/lang/StringBuilder;"), (0, .methodref 7 23), (0, .nameAndType 24 25), (0, u "toString"), (0, u "()Ljava/lang/String;"), (22, u "VALUES"), (0, u "[B"), (24, u "encode"), (0, u "([B)Ljava/lang/String;")] 9

def k2m0 : Method := { name := "<init>", desc := "()V", sig := { parameters := [], returnType := none }, accessFlags := 2, code := none }
def k2c1 : Code := { maxStack := 5, maxLocals := 8, code := prog_16_method_2_code, exceptionTable := #[], attributes := #[] }
def k2m1 : Method := { name := "encode", desc := "([B)Ljava/lang/String;", sig := { parameters := [(.array .byte)], returnType := some (.object "java/lang/String") }, accessFlags := 8, code := some k2c1 }
/-- com/example/encase/encase/codec/Base32 -/
def k2 : Class := { plain "com/example/encase/encase/codec/Base32" (some 0) with
  accessFlags := 48
  interfaces := #[]
  cf := some (fileOf pool2 13 #[] #[{ accessFlags := 2, nameIndex := 5, descriptorIndex := 6, attributes := #[] }, { accessFlags := 8, nameIndex := 74, descriptorIndex := 75, attributes := #[] }] 48 2 #[] #[{ accessFlags := 26, nameIndex := 16, descriptorIndex := 17, attributes := #[] }, { accessFlags := 26, nameIndex := 48, descriptorIndex := 49, attributes := #[] }])
  fields := #[{ name := "ALPHABET", type := (.array .char), accessFlags := 26, slot := 0, constantValue := 0 }, { name := "VALUES", type := (.array .byte), accessFlags := 26, slot := 1, constantValue := 0 }]
  methods := #[k2m0, k2m1]
  instanceTypes := #[]
  staticTypes := #[(.array .char), (.array .byte)]
  resolved := Array.replicate 85 none
  statics := some 0 }

def pool3 : Array CpInfo := pool [(1, .class_ 2), (0, u "java/lang/Appendable"), (0, .class_ 4), (0, u "java/lang/Object")] 9

/-- java/lang/Appendable -/
def k3 : Class := { plain "java/lang/Appendable" (some 0) with
  accessFlags := 1537
  interfaces := #[]
  cf := some (fileOf pool3 1 #[] #[] 1537 3 #[] #[])
  fields := #[]
  methods := #[]
  instanceTypes := #[]
  staticTypes := #[]
  resolved := Array.replicate 14 none
  statics := none }

def pool4 : Array CpInfo := pool [(2, .class_ 4), (1, u "java/lang/CharSequence"), (42, .class_ 48), (0, u "java/lang/CharSequence$1CodePointIterator"), (10, .class_ 60), (0, u "java/lang/CharSequence$1CharIterator"), (5, .class_ 67), (0, u "java/lang/Object")] 63

/-- java/lang/CharSequence -/
def k4 : Class := { plain "java/lang/CharSequence" (some 0) with
  accessFlags := 1537
  interfaces := #[]
  cf := some (fileOf pool4 2 #[.nestMembers #[47, 59]] #[] 1537 66 #[] #[])
  fields := #[]
  methods := #[]
  instanceTypes := #[]
  staticTypes := #[]
  resolved := Array.replicate 131 none
  statics := none }

def pool5 : Array CpInfo := pool [(1, .class_ 2), (0, u "java/lang/String"), (0, .methodref 4 5), (0, .class_ 6), (0, .nameAndType 7 8), (0, u "java/lang/Object"), (0, u "<init>"), (0, u "()V"), (1, .class_ 12), (1, u "java/lang/AbstractStringBuilder"), (0, u "EMPTYVALUE"), (0, u "[B"), (0, .fieldref 10 16), (0, .nameAndType 17 14), (0, u "value"), (0, .fieldref 1 19), (0, .nameAndType 20 21), (0, u "COMPACT_STRINGS"), (0, u "Z"), (0, .fieldref 10 23), (0, .nameAndType 24 25), (0, u "coder"), (0, u "B"), (8, u "length"), (0, u "()I"), (9, u "append"), (2, .class_ 49), (0, u "java/lang/CharSequence"), (25, u "maybeLatin1"), (3, .fieldref 10 80), (0, .nameAndType 81 82), (0, u "count"), (0, u "I"), (0, .methodref 10 84), (0, .nameAndType 85 86), (0, u "isLatin1"), (0, u "()Z"), (1, .class_ 90), (1, u "java/lang/StringLatin1"), (9, .methodref 10 101), (0, .nameAndType 102 103), (0, u "ensureCapacityInternal"), (0, u "(I)V"), (87, .methodref 88 192), (0, .nameAndType 193 194), (0, u "canEncode"), (0, u "(C)Z"), (97, u "(C)Ljava/lang/AbstractStringBuilder;"), (110, u "()[B"), (40, .class_ 445), (0, u "java/lang/Appendable"), (106, u "getValue")] 56

def k5m0 : Method := { name := "<init>", desc := "()V", sig := { parameters := [], returnType := none }, accessFlags := 0, code := none }
def k5c1 : Code := { maxStack := 2, maxLocals := 2, code := jdk_68_method_2_code, exceptionTable := #[], attributes := #[] }
def k5m1 : Method := { name := "<init>", desc := "(I)V", sig := { parameters := [.int], returnType := none }, accessFlags := 0, code := some k5c1 }
def k5c2 : Code := { maxStack := 1, maxLocals := 1, code := jdk_68_method_6_code, exceptionTable := #[], attributes := #[] }
def k5m2 : Method := { name := "length", desc := "()I", sig := { parameters := [], returnType := some .int }, accessFlags := 1, code := some k5c2 }
def k5c3 : Code := { maxStack := 4, maxLocals := 3, code := jdk_68_method_9_code, exceptionTable := #[], attributes := #[] }
def k5m3 : Method := { name := "ensureCapacityInternal", desc := "(I)V", sig := { parameters := [.int], returnType := none }, accessFlags := 2, code := some k5c3 }
def k5c4 : Code := { maxStack := 5, maxLocals := 2, code := jdk_68_method_31_code, exceptionTable := #[], attributes := #[] }
def k5m4 : Method := { name := "append", desc := "(C)Ljava/lang/AbstractStringBuilder;", sig := { parameters := [.char], returnType := some (.object "java/lang/AbstractStringBuilder") }, accessFlags := 1, code := some k5c4 }
def k5c5 : Code := { maxStack := 1, maxLocals := 1, code := jdk_68_method_64_code, exceptionTable := #[], attributes := #[] }
def k5m5 : Method := { name := "getValue", desc := "()[B", sig := { parameters := [], returnType := some (.array .byte) }, accessFlags := 16, code := some k5c5 }
def k5c6 : Code := { maxStack := 1, maxLocals := 1, code := jdk_68_method_68_code, exceptionTable := #[], attributes := #[] }
def k5m6 : Method := { name := "isLatin1", desc := "()Z", sig := { parameters := [], returnType := some .boolean }, accessFlags := 16, code := some k5c6 }
/-- java/lang/AbstractStringBuilder -/
def k5 : Class := { plain "java/lang/AbstractStringBuilder" (some 0) with
  accessFlags := 1056
  interfaces := #[3, 4]
  cf := some (fileOf pool5 10 #[] #[{ accessFlags := 0, nameIndex := 7, descriptorIndex := 8, attributes := #[] }, { accessFlags := 0, nameIndex := 7, descriptorIndex := 103, attributes := #[] }, { accessFlags := 1, nameIndex := 34, descriptorIndex := 35, attributes := #[] }, { accessFlags := 2, nameIndex := 102, descriptorIndex := 103, attributes := #[] }, { accessFlags := 1, nameIndex := 45, descriptorIndex := 292, attributes := #[] }, { accessFlags := 16, nameIndex := 552, descriptorIndex := 403, attributes := #[] }, { accessFlags := 16, nameIndex := 85, descriptorIndex := 86, attributes := #[] }] 1056 4 #[444, 48] #[{ accessFlags := 0, nameIndex := 17, descriptorIndex := 14, attributes := #[] }, { accessFlags := 0, nameIndex := 24, descriptorIndex := 25, attributes := #[] }, { accessFlags := 0, nameIndex := 75, descriptorIndex := 21, attributes := #[] }, { accessFlags := 0, nameIndex := 81, descriptorIndex := 82, attributes := #[] }, { accessFlags := 26, nameIndex := 13, descriptorIndex := 14, attributes := #[] }])
  fields := #[{ name := "value", type := (.array .byte), accessFlags := 0, slot := 0, constantValue := 0 }, { name := "coder", type := .byte, accessFlags := 0, slot := 1, constantValue := 0 }, { name := "maybeLatin1", type := .boolean, accessFlags := 0, slot := 2, constantValue := 0 }, { name := "count", type := .int, accessFlags := 0, slot := 3, constantValue := 0 }, { name := "EMPTYVALUE", type := (.array .byte), accessFlags := 26, slot := 0, constantValue := 0 }]
  methods := #[k5m0, k5m1, k5m2, k5m3, k5m4, k5m5, k5m6]
  instanceTypes := #[(.array .byte), .byte, .boolean, .int]
  staticTypes := #[(.array .byte)]
  resolved := Array.replicate 609 none
  statics := none }

def pool6 : Array CpInfo := pool [(1, .class_ 2), (0, u "java/io/Serializable"), (0, .class_ 4), (0, u "java/lang/Object")] 2

/-- java/io/Serializable -/
def k6 : Class := { plain "java/io/Serializable" (some 0) with
  accessFlags := 1537
  interfaces := #[]
  cf := some (fileOf pool6 1 #[] #[] 1537 3 #[] #[])
  fields := #[]
  methods := #[]
  instanceTypes := #[]
  staticTypes := #[]
  resolved := Array.replicate 7 none
  statics := none }

def pool7 : Array CpInfo := pool [(1, .class_ 2), (0, u "java/lang/Comparable"), (0, .class_ 4), (0, u "java/lang/Object")] 7

/-- java/lang/Comparable -/
def k7 : Class := { plain "java/lang/Comparable" (some 0) with
  accessFlags := 1537
  interfaces := #[]
  cf := some (fileOf pool7 1 #[] #[] 1537 3 #[] #[])
  fields := #[]
  methods := #[]
  instanceTypes := #[]
  staticTypes := #[]
  resolved := Array.replicate 12 none
  statics := none }

def pool8 : Array CpInfo := pool [(1, .methodref 2 3), (0, .class_ 4), (0, .nameAndType 5 6), (0, u "java/lang/AbstractStringBuilder"), (0, u "<init>"), (0, u "(I)V"), (11, .class_ 20), (1, u "java/lang/String"), (3, .class_ 26), (1, u "java/lang/StringBuilder"), (0, u "append"), (22, .methodref 2 51), (0, .nameAndType 27 52), (0, u "(C)Ljava/lang/AbstractStringBuilder;"), (84, .methodref 18 138), (0, .nameAndType 5 139), (0, u "(Ljava/lang/StringBuilder;)V"), (5, u "()V"), (10, u "()I"), (129, u "(C)Ljava/lang/StringBuilder;"), (56, .methodref 2 344), (0, .nameAndType 345 156), (0, u "length"), (3, .class_ 350), (0, u "java/lang/Appendable"), (0, .class_ 352), (0, u "java/io/Serializable"), (0, .class_ 354), (0, u "java/lang/Comparable"), (0, .class_ 356), (0, u "java/lang/CharSequence"), (0, u "serialVersionUID"), (0, u "J"), (40, u "toString"), (0, u "()Ljava/lang/String;")] 21

def k8m0 : Method := { name := "<init>", desc := "()V", sig := { parameters := [], returnType := none }, accessFlags := 1, code := none }
def k8c1 : Code := { maxStack := 2, maxLocals := 2, code := jdk_67_method_2_code, exceptionTable := #[], attributes := #[] }
def k8m1 : Method := { name := "<init>", desc := "(I)V", sig := { parameters := [.int], returnType := none }, accessFlags := 1, code := some k8c1 }
def k8c2 : Code := { maxStack := 2, maxLocals := 2, code := jdk_67_method_14_code, exceptionTable := #[], attributes := #[] }
def k8m2 : Method := { name := "append", desc := "(C)Ljava/lang/StringBuilder;", sig := { parameters := [.char], returnType := some (.object "java/lang/StringBuilder") }, accessFlags := 1, code := some k8c2 }
def k8c3 : Code := { maxStack := 3, maxLocals := 1, code := jdk_67_method_42_code, exceptionTable := #[], attributes := #[] }
def k8m3 : Method := { name := "toString", desc := "()Ljava/lang/String;", sig := { parameters := [], returnType := some (.object "java/lang/String") }, accessFlags := 1, code := some k8c3 }
def k8c4 : Code := { maxStack := 1, maxLocals := 1, code := jdk_67_method_93_code, exceptionTable := #[], attributes := #[] }
def k8m4 : Method := { name := "length", desc := "()I", sig := { parameters := [], returnType := some .int }, accessFlags := 4161, code := some k8c4 }
/-- java/lang/StringBuilder -/
def k8 : Class := { plain "java/lang/StringBuilder" (some 5) with
  accessFlags := 49
  interfaces := #[3, 6, 7, 4]
  cf := some (fileOf pool8 24 #[] #[{ accessFlags := 1, nameIndex := 5, descriptorIndex := 145, attributes := #[] }, { accessFlags := 1, nameIndex := 5, descriptorIndex := 6, attributes := #[] }, { accessFlags := 1, nameIndex := 27, descriptorIndex := 286, attributes := #[] }, { accessFlags := 1, nameIndex := 399, descriptorIndex := 400, attributes := #[] }, { accessFlags := 4161, nameIndex := 345, descriptorIndex := 156, attributes := #[] }] 49 2 #[349, 351, 353, 355] #[{ accessFlags := 24, nameIndex := 357, descriptorIndex := 358, attributes := #[] }])
  fields := #[{ name := "serialVersionUID", type := .long, accessFlags := 24, slot := 0, constantValue := 0 }]
  methods := #[k8m0, k8m1, k8m2, k8m3, k8m4]
  instanceTypes := #[(.array .byte), .byte, .boolean, .int]
  staticTypes := #[.long]
  resolved := Array.replicate 422 none
  statics := none }

def pool9 : Array CpInfo := pool [(1, .class_ 2), (0, u "java/lang/constant/Constable"), (0, .class_ 4), (0, u "java/lang/Object")] 6

/-- java/lang/constant/Constable -/
def k9 : Class := { plain "java/lang/constant/Constable" (some 0) with
  accessFlags := 1537
  interfaces := #[]
  cf := some (fileOf pool9 1 #[] #[] 1537 3 #[] #[])
  fields := #[]
  methods := #[]
  instanceTypes := #[]
  staticTypes := #[]
  resolved := Array.replicate 11 none
  statics := none }

def pool10 : Array CpInfo := pool [(1, .class_ 2), (0, u "java/lang/constant/ConstantDesc"), (0, .class_ 4), (0, u "java/lang/Object")] 32

/-- java/lang/constant/ConstantDesc -/
def k10 : Class := { plain "java/lang/constant/ConstantDesc" (some 0) with
  accessFlags := 1537
  interfaces := #[]
  cf := some (fileOf pool10 1 #[] #[] 1537 3 #[] #[])
  fields := #[]
  methods := #[]
  instanceTypes := #[]
  staticTypes := #[]
  resolved := Array.replicate 37 none
  statics := none }

def pool11 : Array CpInfo := pool [(1, .methodref 2 3), (0, .class_ 4), (0, .nameAndType 5 6), (0, u "java/lang/Object"), (0, u "<init>"), (0, u "()V"), (2, .fieldref 10 11), (0, .class_ 12), (0, .nameAndType 13 14), (0, u "java/lang/String"), (0, u "value"), (0, u "[B"), (0, .fieldref 10 16), (0, .nameAndType 17 18), (0, u "coder"), (0, u "B"), (2, u "hash"), (0, u "I"), (2, u "hashIsZero"), (0, u "Z"), (11, .fieldref 10 39), (0, .nameAndType 40 26), (0, u "COMPACT_STRINGS"), (13, .methodref 55 56), (0, .class_ 57), (0, .nameAndType 58 59), (0, u "java/util/Arrays"), (0, u "copyOfRange"), (0, u "([BII)[B"), (47, .class_ 109), (1, u "java/lang/StringLatin1"), (32, u "()Z"), (191, u "()I"), (0, .methodref 10 336), (0, .nameAndType 17 337), (0, u "()B"), (2, u "()[B"), (22, u "([BI)C"), (27, u "(II)V"), (35, u "(I)C"), (61, .methodref 10 490), (0, .nameAndType 5 491), (0, u "(Ljava/lang/AbstractStringBuilder;Ljava/lang/Void;)V"), (0, .methodref 10 493), (0, .nameAndType 494 142), (0, u "isLatin1"), (0, .methodref 107 496), (0, .nameAndType 497 363), (0, u "charAt"), (3, u "checkIndex"), (4, .nameAndType 507 334), (0, u "length"), (41, .methodref 550 506), (0, .class_ 551), (0, u "java/lang/AbstractStringBuilder"), (0, .methodref 550 553), (0, .nameAndType 554 340), (0, u "getValue"), (20, .class_ 576), (0, u "java/lang/CharSequence"), (22, u "CASE_INSENSITIVE_ORDER"), (0, u "Ljava/util/Comparator;"), (446, .methodref 550 493), (5, .fieldref 1054 1055), (0, .class_ 1056), (0, .nameAndType 1057 1058), (0, u "jdk/internal/util/Preconditions"), (0, u "SIOOBE_FORMATTER"), (0, u "Ljava/util/function/BiFunction;"), (0, .methodref 1054 1060), (0, .nameAndType 501 1061), (0, u "(IILjava/util/function/BiFunction;)I"), (39, u "serialPersistentFields"), (0, u "[Ljava/io/ObjectStreamField;"), (0, .class_ 1104), (0, u "java/lang/String$CaseInsensitiveComparator"), (1, .class_ 1107), (0, u "java/io/Serializable"), (0, .class_ 1109), (0, u "java/lang/Comparable"), (0, .class_ 1111), (0, u "java/lang/constant/Constable"), (0, .class_ 1113), (0, u "java/lang/constant/ConstantDesc"), (2, u "serialVersionUID"), (0, u "J"), (3, u "REPL"), (0, u "C"), (2, u "LATIN1"), (1, u "UTF16"), (105, u "(Ljava/lang/StringBuilder;)V")] 217

def k11m0 : Method := { name := "<init>", desc := "()V", sig := { parameters := [], returnType := none }, accessFlags := 1, code := none }
def k11c1 : Code := { maxStack := 3, maxLocals := 2, code := jdk_42_method_53_code, exceptionTable := #[], attributes := #[] }
def k11m1 : Method := { name := "<init>", desc := "(Ljava/lang/StringBuilder;)V", sig := { parameters := [(.object "java/lang/StringBuilder")], returnType := none }, accessFlags := 1, code := some k11c1 }
def k11c2 : Code := { maxStack := 2, maxLocals := 1, code := jdk_42_method_54_code, exceptionTable := #[], attributes := #[] }
def k11m2 : Method := { name := "length", desc := "()I", sig := { parameters := [], returnType := some .int }, accessFlags := 1, code := some k11c2 }
def k11c3 : Code := { maxStack := 2, maxLocals := 2, code := jdk_42_method_56_code, exceptionTable := #[], attributes := #[] }
def k11m3 : Method := { name := "charAt", desc := "(I)C", sig := { parameters := [.int], returnType := some .char }, accessFlags := 1, code := some k11c3 }
def k11c4 : Code := { maxStack := 5, maxLocals := 5, code := jdk_42_method_150_code, exceptionTable := #[], attributes := #[] }
def k11m4 : Method := { name := "<init>", desc := "(Ljava/lang/AbstractStringBuilder;Ljava/lang/Void;)V", sig := { parameters := [(.object "java/lang/AbstractStringBuilder"), (.object "java/lang/Void")], returnType := none }, accessFlags := 0, code := some k11c4 }
def k11c5 : Code := { maxStack := 1, maxLocals := 1, code := jdk_42_method_152_code, exceptionTable := #[], attributes := #[] }
def k11m5 : Method := { name := "coder", desc := "()B", sig := { parameters := [], returnType := some .byte }, accessFlags := 0, code := some k11c5 }
def k11c6 : Code := { maxStack := 1, maxLocals := 1, code := jdk_42_method_154_code, exceptionTable := #[], attributes := #[] }
def k11m6 : Method := { name := "isLatin1", desc := "()Z", sig := { parameters := [], returnType := some .boolean }, accessFlags := 0, code := some k11c6 }
def k11c7 : Code := { maxStack := 3, maxLocals := 2, code := jdk_42_method_155_code, exceptionTable := #[], attributes := #[] }
def k11m7 : Method := { name := "checkIndex", desc := "(II)V", sig := { parameters := [.int, .int], returnType := none }, accessFlags := 8, code := some k11c7 }
/-- java/lang/String -/
def k11 : Class := { plain "java/lang/String" (some 0) with
  accessFlags := 49
  interfaces := #[6, 7, 4, 9, 10]
  cf := some (fileOf pool11 10 #[.nestMembers #[1103]] #[{ accessFlags := 1, nameIndex := 5, descriptorIndex := 6, attributes := #[] }, { accessFlags := 1, nameIndex := 5, descriptorIndex := 1233, attributes := #[] }, { accessFlags := 1, nameIndex := 507, descriptorIndex := 334, attributes := #[] }, { accessFlags := 1, nameIndex := 497, descriptorIndex := 427, attributes := #[] }, { accessFlags := 0, nameIndex := 5, descriptorIndex := 491, attributes := #[] }, { accessFlags := 0, nameIndex := 17, descriptorIndex := 337, attributes := #[] }, { accessFlags := 0, nameIndex := 494, descriptorIndex := 142, attributes := #[] }, { accessFlags := 8, nameIndex := 501, descriptorIndex := 391, attributes := #[] }] 49 2 #[1106, 1108, 575, 1110, 1112] #[{ accessFlags := 18, nameIndex := 13, descriptorIndex := 14, attributes := #[] }, { accessFlags := 18, nameIndex := 17, descriptorIndex := 18, attributes := #[] }, { accessFlags := 2, nameIndex := 21, descriptorIndex := 22, attributes := #[] }, { accessFlags := 2, nameIndex := 25, descriptorIndex := 26, attributes := #[] }, { accessFlags := 26, nameIndex := 1116, descriptorIndex := 1117, attributes := #[] }, { accessFlags := 24, nameIndex := 40, descriptorIndex := 26, attributes := #[] }, { accessFlags := 26, nameIndex := 1101, descriptorIndex := 1102, attributes := #[] }, { accessFlags := 26, nameIndex := 1121, descriptorIndex := 1122, attributes := #[] }, { accessFlags := 25, nameIndex := 599, descriptorIndex := 600, attributes := #[] }, { accessFlags := 24, nameIndex := 1125, descriptorIndex := 18, attributes := #[] }, { accessFlags := 24, nameIndex := 1127, descriptorIndex := 18, attributes := #[] }])
  fields := #[{ name := "value", type := (.array .byte), accessFlags := 18, slot := 0, constantValue := 0 }, { name := "coder", type := .byte, accessFlags := 18, slot := 1, constantValue := 0 }, { name := "hash", type := .int, accessFlags := 2, slot := 2, constantValue := 0 }, { name := "hashIsZero", type := .boolean, accessFlags := 2, slot := 3, constantValue := 0 }, { name := "serialVersionUID", type := .long, accessFlags := 26, slot := 0, constantValue := 0 }, { name := "COMPACT_STRINGS", type := .boolean, accessFlags := 24, slot := 1, constantValue := 0 }, { name := "serialPersistentFields", type := (.array (.object "java/io/ObjectStreamField")), accessFlags := 26, slot := 2, constantValue := 0 }, { name := "REPL", type := .char, accessFlags := 26, slot := 3, constantValue := 0 }, { name := "CASE_INSENSITIVE_ORDER", type := (.object "java/util/Comparator"), accessFlags := 25, slot := 4, constantValue := 0 }, { name := "LATIN1", type := .byte, accessFlags := 24, slot := 5, constantValue := 0 }, { name := "UTF16", type := .byte, accessFlags := 24, slot := 6, constantValue := 0 }]
  methods := #[k11m0, k11m1, k11m2, k11m3, k11m4, k11m5, k11m6, k11m7]
  instanceTypes := #[(.array .byte), .byte, .int, .boolean]
  staticTypes := #[.long, .boolean, (.array (.object "java/io/ObjectStreamField")), .char, (.object "java/util/Comparator"), .byte, .byte]
  resolved := Array.replicate 1451 none
  statics := some 1 }

def pool12 : Array CpInfo := pool [(2, .class_ 4), (1, u "java/lang/Object"), (0, u "<init>"), (0, u "()V"), (7, .class_ 16), (1, u "java/util/Arrays"), (57, .class_ 76), (1, u "java/util/Arrays$NaturalOrder"), (32, u "()Ljava/lang/Object;"), (3, .class_ 115), (1, u "java/util/Arrays$LegacyMergeSort"), (1, u "Z"), (10, .nameAndType 129 109), (0, u "clone"), (9, u "copyOfRange"), (170, .methodref 311 128), (0, .class_ 312), (0, u "[B"), (29, u "([BII)[B"), (32, .class_ 376), (0, u "java/util/Arrays$ArrayList"), (68, u "$assertionsDisabled"), (269, u "MIN_ARRAY_SORT_GRAN"), (0, u "I"), (2, u "INSERTIONSORT_THRESHOLD"), (255, .class_ 976), (0, u "java/util/Arrays$ArrayItr")] 52

def k12m0 : Method := { name := "<init>", desc := "()V", sig := { parameters := [], returnType := none }, accessFlags := 2, code := none }
def k12c1 : Code := { maxStack := 3, maxLocals := 3, code := jdk_65_method_132_code, exceptionTable := #[], attributes := #[] }
def k12m1 : Method := { name := "copyOfRange", desc := "([BII)[B", sig := { parameters := [(.array .byte), .int, .int], returnType := some (.array .byte) }, accessFlags := 9, code := some k12c1 }
/-- java/util/Arrays -/
def k12 : Class := { plain "java/util/Arrays" (some 0) with
  accessFlags := 49
  interfaces := #[]
  cf := some (fileOf pool12 14 #[.nestMembers #[975, 375, 113, 74]] #[{ accessFlags := 2, nameIndex := 5, descriptorIndex := 6, attributes := #[] }, { accessFlags := 9, nameIndex := 139, descriptorIndex := 342, attributes := #[] }] 49 2 #[] #[{ accessFlags := 26, nameIndex := 715, descriptorIndex := 716, attributes := #[] }, { accessFlags := 26, nameIndex := 719, descriptorIndex := 716, attributes := #[] }, { accessFlags := 4120, nameIndex := 445, descriptorIndex := 117, attributes := #[] }])
  fields := #[{ name := "MIN_ARRAY_SORT_GRAN", type := .int, accessFlags := 26, slot := 0, constantValue := 0 }, { name := "INSERTIONSORT_THRESHOLD", type := .int, accessFlags := 26, slot := 1, constantValue := 0 }, { name := "$assertionsDisabled", type := .boolean, accessFlags := 4120, slot := 2, constantValue := 0 }]
  methods := #[k12m0, k12m1]
  instanceTypes := #[]
  staticTypes := #[.int, .int, .boolean]
  resolved := Array.replicate 1029 none
  statics := none }

def pool13 : Array CpInfo := pool [(1, .class_ 2), (0, u "java/lang/Cloneable"), (0, .class_ 4), (0, u "java/lang/Object")] 2

/-- java/lang/Cloneable -/
def k13 : Class := { plain "java/lang/Cloneable" (some 0) with
  accessFlags := 1537
  interfaces := #[]
  cf := some (fileOf pool13 1 #[] #[] 1537 3 #[] #[])
  fields := #[]
  methods := #[]
  instanceTypes := #[]
  staticTypes := #[]
  resolved := Array.replicate 7 none
  statics := none }

def pool14 : Array CpInfo := pool [(1, .class_ 2), (0, u "java/lang/Math"), (1, .class_ 6), (1, u "java/lang/Object"), (0, u "<init>"), (0, u "()V"), (89, .class_ 100), (1, u "java/lang/Math$RandomNumberGeneratorHolder"), (71, u "negativeZeroFloatBits"), (0, u "J"), (2, u "negativeZeroDoubleBits"), (21, u "max"), (2, u "min"), (43, u "$assertionsDisabled"), (0, u "Z"), (88, u "(II)I"), (2, u "twoToTheDoubleScaleDown"), (0, u "D"), (4, u "twoToTheDoubleScaleUp"), (9, u "E"), (3, u "PI"), (2, u "TAU"), (2, u "DEGREES_TO_RADIANS"), (0, u "RADIANS_TO_DEGREES")] 94

def k14m0 : Method := { name := "<init>", desc := "()V", sig := { parameters := [], returnType := none }, accessFlags := 2, code := none }
def k14c1 : Code := { maxStack := 2, maxLocals := 2, code := jdk_29_method_65_code, exceptionTable := #[], attributes := #[] }
def k14m1 : Method := { name := "max", desc := "(II)I", sig := { parameters := [.int, .int], returnType := some .int }, accessFlags := 9, code := some k14c1 }
def k14c2 : Code := { maxStack := 2, maxLocals := 2, code := jdk_29_method_69_code, exceptionTable := #[], attributes := #[] }
def k14m2 : Method := { name := "min", desc := "(II)I", sig := { parameters := [.int, .int], returnType := some .int }, accessFlags := 9, code := some k14c2 }
/-- java/lang/Math -/
def k14 : Class := { plain "java/lang/Math" (some 0) with
  accessFlags := 49
  interfaces := #[]
  cf := some (fileOf pool14 1 #[.nestMembers #[98]] #[{ accessFlags := 2, nameIndex := 7, descriptorIndex := 8, attributes := #[] }, { accessFlags := 9, nameIndex := 198, descriptorIndex := 335, attributes := #[] }, { accessFlags := 9, nameIndex := 201, descriptorIndex := 335, attributes := #[] }] 49 4 #[] #[{ accessFlags := 25, nameIndex := 354, descriptorIndex := 339, attributes := #[] }, { accessFlags := 25, nameIndex := 358, descriptorIndex := 339, attributes := #[] }, { accessFlags := 25, nameIndex := 361, descriptorIndex := 339, attributes := #[] }, { accessFlags := 26, nameIndex := 364, descriptorIndex := 339, attributes := #[] }, { accessFlags := 26, nameIndex := 365, descriptorIndex := 339, attributes := #[] }, { accessFlags := 26, nameIndex := 172, descriptorIndex := 173, attributes := #[] }, { accessFlags := 26, nameIndex := 176, descriptorIndex := 173, attributes := #[] }, { accessFlags := 8, nameIndex := 344, descriptorIndex := 339, attributes := #[] }, { accessFlags := 8, nameIndex := 338, descriptorIndex := 339, attributes := #[] }, { accessFlags := 4120, nameIndex := 245, descriptorIndex := 246, attributes := #[] }])
  fields := #[{ name := "E", type := .double, accessFlags := 25, slot := 0, constantValue := 0 }, { name := "PI", type := .double, accessFlags := 25, slot := 1, constantValue := 0 }, { name := "TAU", type := .double, accessFlags := 25, slot := 2, constantValue := 0 }, { name := "DEGREES_TO_RADIANS", type := .double, accessFlags := 26, slot := 3, constantValue := 0 }, { name := "RADIANS_TO_DEGREES", type := .double, accessFlags := 26, slot := 4, constantValue := 0 }, { name := "negativeZeroFloatBits", type := .long, accessFlags := 26, slot := 5, constantValue := 0 }, { name := "negativeZeroDoubleBits", type := .long, accessFlags := 26, slot := 6, constantValue := 0 }, { name := "twoToTheDoubleScaleUp", type := .double, accessFlags := 8, slot := 7, constantValue := 0 }, { name := "twoToTheDoubleScaleDown", type := .double, accessFlags := 8, slot := 8, constantValue := 0 }, { name := "$assertionsDisabled", type := .boolean, accessFlags := 4120, slot := 9, constantValue := 0 }]
  methods := #[k14m0, k14m1, k14m2]
  instanceTypes := #[]
  staticTypes := #[.double, .double, .double, .double, .double, .long, .long, .double, .double, .boolean]
  resolved := Array.replicate 460 none
  statics := none }

def pool15 : Array CpInfo := pool [(1, .class_ 2), (0, u "java/lang/String"), (1, .class_ 6), (1, u "java/lang/Object"), (0, u "<init>"), (0, u "()V"), (0, .methodref 1 10), (0, .nameAndType 11 12), (0, u "checkIndex"), (0, u "(II)V"), (1, .class_ 16), (1, u "java/lang/StringLatin1"), (36, u "([BI)C"), (36, u "canEncode"), (14, u "(C)Z"), (15, u "$assertionsDisabled"), (0, u "Z"), (98, .class_ 223), (1, u "java/lang/StringLatin1$LinesSpliterator"), (28, u "charAt"), (137, .class_ 391), (0, u "java/lang/StringLatin1$CharsSpliterator")] 3

def k15m0 : Method := { name := "<init>", desc := "()V", sig := { parameters := [], returnType := none }, accessFlags := 0, code := none }
def k15c1 : Code := { maxStack := 2, maxLocals := 2, code := jdk_43_method_2_code, exceptionTable := #[], attributes := #[] }
def k15m1 : Method := { name := "charAt", desc := "([BI)C", sig := { parameters := [(.array .byte), .int], returnType := some .char }, accessFlags := 9, code := some k15c1 }
def k15c2 : Code := { maxStack := 2, maxLocals := 1, code := jdk_43_method_3_code, exceptionTable := #[], attributes := #[] }
def k15m2 : Method := { name := "canEncode", desc := "(C)Z", sig := { parameters := [.char], returnType := some .boolean }, accessFlags := 9, code := some k15c2 }
/-- java/lang/StringLatin1 -/
def k15 : Class := { plain "java/lang/StringLatin1" (some 0) with
  accessFlags := 48
  interfaces := #[]
  cf := some (fileOf pool15 14 #[.nestMembers #[390, 221]] #[{ accessFlags := 0, nameIndex := 7, descriptorIndex := 8, attributes := #[] }, { accessFlags := 9, nameIndex := 252, descriptorIndex := 53, attributes := #[] }, { accessFlags := 9, nameIndex := 90, descriptorIndex := 105, attributes := #[] }] 48 4 #[] #[{ accessFlags := 4120, nameIndex := 121, descriptorIndex := 122, attributes := #[] }])
  fields := #[{ name := "$assertionsDisabled", type := .boolean, accessFlags := 4120, slot := 0, constantValue := 0 }]
  methods := #[k15m0, k15m1, k15m2]
  instanceTypes := #[]
  staticTypes := #[.boolean]
  resolved := Array.replicate 395 none
  statics := none }

def pool16 : Array CpInfo := pool [(2, .class_ 4), (1, u "java/lang/Object"), (0, u "<init>"), (0, u "()V"), (17, .class_ 26), (1, u "jdk/internal/util/Preconditions"), (6, u "checkIndex"), (21, .class_ 56), (0, u "jdk/internal/util/Preconditions$4"), (57, .class_ 115), (0, u "jdk/internal/util/Preconditions$1"), (7, u "SIOOBE_FORMATTER"), (0, u "Ljava/util/function/BiFunction;"), (0, .class_ 126), (0, u "jdk/internal/util/Preconditions$2"), (3, u "AIOOBE_FORMATTER"), (0, .class_ 132), (0, u "jdk/internal/util/Preconditions$3"), (3, u "IOOBE_FORMATTER"), (41, u "(IILjava/util/function/BiFunction;)I")] 15

def k16m0 : Method := { name := "<init>", desc := "()V", sig := { parameters := [], returnType := none }, accessFlags := 1, code := none }
def k16c1 : Code := { maxStack := 3, maxLocals := 3, code := jdk_41_method_11_code, exceptionTable := #[], attributes := #[] }
def k16m1 : Method := { name := "checkIndex", desc := "(IILjava/util/function/BiFunction;)I", sig := { parameters := [.int, .int, (.object "java/util/function/BiFunction")], returnType := some .int }, accessFlags := 9, code := some k16c1 }
/-- jdk/internal/util/Preconditions -/
def k16 : Class := { plain "jdk/internal/util/Preconditions" (some 0) with
  accessFlags := 33
  interfaces := #[]
  cf := some (fileOf pool16 24 #[.nestMembers #[55, 131, 125, 114]] #[{ accessFlags := 1, nameIndex := 5, descriptorIndex := 6, attributes := #[] }, { accessFlags := 9, nameIndex := 33, descriptorIndex := 178, attributes := #[] }] 33 2 #[] #[{ accessFlags := 25, nameIndex := 123, descriptorIndex := 124, attributes := #[] }, { accessFlags := 25, nameIndex := 130, descriptorIndex := 124, attributes := #[] }, { accessFlags := 25, nameIndex := 136, descriptorIndex := 124, attributes := #[] }])
  fields := #[{ name := "SIOOBE_FORMATTER", type := (.object "java/util/function/BiFunction"), accessFlags := 25, slot := 0, constantValue := 0 }, { name := "AIOOBE_FORMATTER", type := (.object "java/util/function/BiFunction"), accessFlags := 25, slot := 1, constantValue := 0 }, { name := "IOOBE_FORMATTER", type := (.object "java/util/function/BiFunction"), accessFlags := 25, slot := 2, constantValue := 0 }]
  methods := #[k16m0, k16m1]
  instanceTypes := #[]
  staticTypes := #[(.object "java/util/function/BiFunction"), (.object "java/util/function/BiFunction"), (.object "java/util/function/BiFunction")]
  resolved := Array.replicate 194 none
  statics := some 2 }

def pool17 : Array CpInfo := pool [(9, u "<init>"), (6, .class_ 18), (1, u "java/lang/Object"), (0, u "()V"), (1, .class_ 23), (1, u "jdk/internal/util/ArraysSupport"), (0, u "LOG2_ARRAY_LONG_INDEX_SCALE"), (0, u "I"), (2, u "U"), (0, u "Ljdk/internal/misc/Unsafe;"), (8, u "BIG_ENDIAN"), (0, u "Z"), (8, u "LOG2_BYTE_BIT_SIZE"), (4, u "LOG2_ARRAY_INT_INDEX_SCALE"), (54, u "JLA"), (0, u "Ljdk/internal/access/JavaLangAccess;"), (11, u "LOG2_ARRAY_BOOLEAN_INDEX_SCALE"), (9, u "LOG2_ARRAY_BYTE_INDEX_SCALE"), (5, u "LOG2_ARRAY_CHAR_INDEX_SCALE"), (5, u "LOG2_ARRAY_SHORT_INDEX_SCALE"), (18, u "LOG2_ARRAY_FLOAT_INDEX_SCALE"), (24, u "LOG2_ARRAY_DOUBLE_INDEX_SCALE"), (89, u "T_BOOLEAN"), (2, u "T_CHAR"), (1, u "T_FLOAT"), (1, u "T_DOUBLE"), (1, u "T_BYTE"), (1, u "T_SHORT"), (1, u "T_INT"), (1, u "T_LONG"), (1, u "SOFT_MAX_ARRAY_LENGTH")] 83

def k17m0 : Method := { name := "<init>", desc := "()V", sig := { parameters := [], returnType := none }, accessFlags := 2, code := none }
/-- jdk/internal/util/ArraysSupport -/
def k17 : Class := { plain "jdk/internal/util/ArraysSupport" (some 0) with
  accessFlags := 33
  interfaces := #[]
  cf := some (fileOf pool17 21 #[] #[{ accessFlags := 2, nameIndex := 9, descriptorIndex := 19, attributes := #[] }] 33 16 #[] #[{ accessFlags := 24, nameIndex := 28, descriptorIndex := 29, attributes := #[] }, { accessFlags := 26, nameIndex := 38, descriptorIndex := 39, attributes := #[] }, { accessFlags := 25, nameIndex := 121, descriptorIndex := 25, attributes := #[] }, { accessFlags := 25, nameIndex := 131, descriptorIndex := 25, attributes := #[] }, { accessFlags := 25, nameIndex := 137, descriptorIndex := 25, attributes := #[] }, { accessFlags := 25, nameIndex := 143, descriptorIndex := 25, attributes := #[] }, { accessFlags := 25, nameIndex := 53, descriptorIndex := 25, attributes := #[] }, { accessFlags := 25, nameIndex := 24, descriptorIndex := 25, attributes := #[] }, { accessFlags := 25, nameIndex := 162, descriptorIndex := 25, attributes := #[] }, { accessFlags := 25, nameIndex := 187, descriptorIndex := 25, attributes := #[] }, { accessFlags := 26, nameIndex := 48, descriptorIndex := 25, attributes := #[] }, { accessFlags := 25, nameIndex := 277, descriptorIndex := 25, attributes := #[] }, { accessFlags := 25, nameIndex := 280, descriptorIndex := 25, attributes := #[] }, { accessFlags := 25, nameIndex := 282, descriptorIndex := 25, attributes := #[] }, { accessFlags := 25, nameIndex := 284, descriptorIndex := 25, attributes := #[] }, { accessFlags := 25, nameIndex := 286, descriptorIndex := 25, attributes := #[] }, { accessFlags := 25, nameIndex := 288, descriptorIndex := 25, attributes := #[] }, { accessFlags := 25, nameIndex := 290, descriptorIndex := 25, attributes := #[] }, { accessFlags := 25, nameIndex := 292, descriptorIndex := 25, attributes := #[] }, { accessFlags := 26, nameIndex := 108, descriptorIndex := 109, attributes := #[] }, { accessFlags := 25, nameIndex := 294, descriptorIndex := 25, attributes := #[] }])
  fields := #[{ name := "U", type := (.object "jdk/internal/misc/Unsafe"), accessFlags := 24, slot := 0, constantValue := 0 }, { name := "BIG_ENDIAN", type := .boolean, accessFlags := 26, slot := 1, constantValue := 0 }, { name := "LOG2_ARRAY_BOOLEAN_INDEX_SCALE", type := .int, accessFlags := 25, slot := 2, constantValue := 0 }, { name := "LOG2_ARRAY_BYTE_INDEX_SCALE", type := .int, accessFlags := 25, slot := 3, constantValue := 0 }, { name := "LOG2_ARRAY_CHAR_INDEX_SCALE", type := .int, accessFlags := 25, slot := 4, constantValue := 0 }, { name := "LOG2_ARRAY_SHORT_INDEX_SCALE", type := .int, accessFlags := 25, slot := 5, constantValue := 0 }, { name := "LOG2_ARRAY_INT_INDEX_SCALE", type := .int, accessFlags := 25, slot := 6, constantValue := 0 }, { name := "LOG2_ARRAY_LONG_INDEX_SCALE", type := .int, accessFlags := 25, slot := 7, constantValue := 0 }, { name := "LOG2_ARRAY_FLOAT_INDEX_SCALE", type := .int, accessFlags := 25, slot := 8, constantValue := 0 }, { name := "LOG2_ARRAY_DOUBLE_INDEX_SCALE", type := .int, accessFlags := 25, slot := 9, constantValue := 0 }, { name := "LOG2_BYTE_BIT_SIZE", type := .int, accessFlags := 26, slot := 10, constantValue := 0 }, { name := "T_BOOLEAN", type := .int, accessFlags := 25, slot := 11, constantValue := 0 }, { name := "T_CHAR", type := .int, accessFlags := 25, slot := 12, constantValue := 0 }, { name := "T_FLOAT", type := .int, accessFlags := 25, slot := 13, constantValue := 0 }, { name := "T_DOUBLE", type := .int, accessFlags := 25, slot := 14, constantValue := 0 }, { name := "T_BYTE", type := .int, accessFlags := 25, slot := 15, constantValue := 0 }, { name := "T_SHORT", type := .int, accessFlags := 25, slot := 16, constantValue := 0 }, { name := "T_INT", type := .int, accessFlags := 25, slot := 17, constantValue := 0 }, { name := "T_LONG", type := .int, accessFlags := 25, slot := 18, constantValue := 0 }, { name := "JLA", type := (.object "jdk/internal/access/JavaLangAccess"), accessFlags := 26, slot := 19, constantValue := 0 }, { name := "SOFT_MAX_ARRAY_LENGTH", type := .int, accessFlags := 25, slot := 20, constantValue := 0 }]
  methods := #[k17m0]
  instanceTypes := #[]
  staticTypes := #[(.object "jdk/internal/misc/Unsafe"), .boolean, .int, .int, .int, .int, .int, .int, .int, .int, .int, .int, .int, .int, .int, .int, .int, .int, .int, (.object "jdk/internal/access/JavaLangAccess"), .int]
  resolved := Array.replicate 378 none
  statics := none }

/-- the primitive byte -/
def k18 : Class := { plain "byte" none with kind := .primitive 'B', accessFlags := 0x411 }
/-- [B -/
def k19 : Class := { plain "[B" (some 0) with kind := .array 18 .byte, interfaces := #[13, 6], accessFlags := 1041 }

/-- the primitive char -/
def k20 : Class := { plain "char" none with kind := .primitive 'C', accessFlags := 0x411 }
/-- [C -/
def k21 : Class := { plain "[C" (some 0) with kind := .array 20 .char, interfaces := #[13, 6], accessFlags := 1041 }

/-- the primitive int -/
def k22 : Class := { plain "int" none with kind := .primitive 'I', accessFlags := 0x411 }
/-- [I -/
def k23 : Class := { plain "[I" (some 0) with kind := .array 22 .int, interfaces := #[13, 6], accessFlags := 1041 }

def heap : Heap := #[{ cls := 2, slots := #[.ref 3, .null], vm := .statics 2 },
  { cls := 11, slots := #[.long 0, .int 1, .null, .int 0, .null, .int 0, .int 0], vm := .statics 11 },
  { cls := 16, slots := #[.null, .null, .null], vm := .statics 16 },
  { cls := 21, slots := #[.int 97, .int 98, .int 99, .int 100, .int 101, .int 102, .int 103, .int 104, .int 105, .int 106, .int 107, .int 108, .int 109, .int 110, .int 111, .int 112, .int 113, .int 114, .int 115, .int 116, .int 117, .int 118, .int 119, .int 120, .int 121, .int 122, .int 50, .int 51, .int 52, .int 53, .int 54, .int 55], vm := .none }]
def classes : Array Class := #[k0, k1, k2, k3, k4, k5, k6, k7, k8, k9, k10, k11, k12, k13, k14, k15, k16, k17, k18, k19, k20, k21, k22, k23]
def interned : List (Array UInt16 × Addr) := []
def slotsUsed : Nat := 44
def theMethod : MethodId := ⟨1, 1⟩
def args0 : Array Value := #[.int 3, .long 5, .long 7]
def aboutOver (below : List Frame) : State where
  vm := { classes := classes, interned := interned.toArray }
  heap := heap
  slotsUsed := slotsUsed
  threads := #[{ frames := .invoking theMethod args0 :: below }]
def below0 : List Frame := [.native { method := ⟨0, 0⟩, args := #[] }]
def about1 : State := aboutOver below0
def p0 : Program := .bare "" "" ""
def e0 : Env := launch0.env 0 0 0
theorem w_frames : about1.frames = Frame.invoking theMethod args0 :: below0 := rfl
set_option maxRecDepth 65536 in
theorem w_args : argsFit about1.vm theMethod args0 = true := by decide +kernel
set_option maxRecDepth 65536 in
theorem w_heap : heapFits about1 = true := by decide +kernel
set_option maxRecDepth 65536 in
theorem w_runnable : about1.curStatus? = some .runnable := by decide +kernel
set_option maxRecDepth 65536 in
theorem w_alone : about1.alone = true := by decide +kernel
set_option maxRecDepth 65536 in
theorem w_named : about1.methodNamed? x = some theMethod := by decide +kernel
set_option maxRecDepth 65536 in
theorem w_hears : about1.hears theMethod below0 = true := by decide +kernel
set_option maxRecDepth 65536 in
theorem w_ripe : about1.ripe theMethod args0 below0 = true := by decide +kernel
theorem w_running : about1.status = .running := rfl
set_option maxRecDepth 65536 in
theorem w_room : about1.hasRoom e0.platform room_1 = true :=
  launch0.hasRoom_least _ room_1 (by decide +kernel) (by decide +kernel) (by decide +kernel) (by decide +kernel) (by decide +kernel) (by decide +kernel)
theorem allAtoms_all (ts : List Jvm.Cond) (a : Array Jvm.Value) (st : Jvm.State) : (allAtoms ts).before a st = ts.all (fun c => c.before a st) := by
  induction ts with
  | nil => rfl
  | cons c t ih =>
    show (Jvm.Cond.and c (allAtoms t)).before a st = _
    rw [Jvm.Cond.before_and, ih, List.all_cons]
def words1 : List Jvm.Cond := Jvm.Cond.code x code maxLocals ret :: tables_1
/-- a 'code' word, met by the world's own term for the bytes: nothing is compared byte by byte -/
theorem code_word {y : MethodName} {bytes : ByteArray} {mx : Nat} {rt : Option FieldType} {a : Array Value} {s : State} {m : MethodId} {meth : Method} {c : Code} (h1 : s.methodNamed? y = some m) (h2 : s.vm.method? m = some meth) (h3 : meth.code = some c) (h4 : c.code = bytes)
    (h5 : (c.maxLocals == mx && c.exceptionTable.isEmpty && decide (c.maxStack ≤ mostOperands) && decide (meth.sig.returnType = rt) && !meth.locks && decide (parseMethodDescriptor y.desc = some meth.sig)) = true) : (Jvm.Cond.code y bytes mx rt).before a s = true := by
  simp only [Bool.and_eq_true, beq_iff_eq, Bool.not_eq_true', decide_eq_true_eq] at h5
  obtain ⟨⟨⟨⟨⟨g1, g2⟩, g3⟩, g4⟩, g5⟩, g6⟩ := h5
  simp [Cond.before, Cond.holds, Cond.value, h1, h2, h3, h4, g1, g2, g3, g4, g5, g6]
def isCode : Jvm.Cond → Bool
  | .code _ _ _ _ => true
  | _ => false
theorem all_split {L : List Jvm.Cond} {P : Jvm.Cond → Bool} (h1 : L.all (fun c => isCode c || P c) = true) (h2 : ∀ c ∈ L.filter isCode, P c = true) : L.all P = true := by
  refine List.all_eq_true.mpr fun c hc => ?_
  have h := List.all_eq_true.mp h1 c hc
  rcases Bool.eq_false_or_eq_true (isCode c) with hi | hi
  · exact h2 c (List.mem_filter.mpr ⟨hc, hi⟩)
  · simpa [hi] using h
set_option maxRecDepth 65536 in
theorem w_c0 : (Jvm.Cond.code x code maxLocals ret).before args0 about1 = true := code_word (m := ⟨1, 1⟩) (meth := k1m1) (c := k1c1) (by decide +kernel) rfl rfl rfl (by decide +kernel)
set_option maxRecDepth 65536 in
theorem w_c1 : (Jvm.Cond.code ({ cls := "com/example/encase/encase/codec/Base32", name := "encode", desc := "([B)Ljava/lang/String;" } : Jvm.MethodName) prog_16_method_2_code (8 : Nat) (Option.some (Jvm.ClassFile.FieldType.object "java/lang/String"))).before args0 about1 = true := code_word (m := ⟨2, 1⟩) (meth := k2m1) (c := k2c1) (by decide +kernel) rfl rfl rfl (by decide +kernel)
set_option maxRecDepth 65536 in
theorem w_c2 : (Jvm.Cond.code ({ cls := "java/lang/StringBuilder", name := "<init>", desc := "(I)V" } : Jvm.MethodName) jdk_67_method_2_code (2 : Nat) (Option.none : Option Jvm.ClassFile.FieldType)).before args0 about1 = true := code_word (m := ⟨8, 1⟩) (meth := k8m1) (c := k8c1) (by decide +kernel) rfl rfl rfl (by decide +kernel)
set_option maxRecDepth 65536 in
theorem w_c3 : (Jvm.Cond.code ({ cls := "java/lang/AbstractStringBuilder", name := "<init>", desc := "(I)V" } : Jvm.MethodName) jdk_68_method_2_code (2 : Nat) (Option.none : Option Jvm.ClassFile.FieldType)).before args0 about1 = true := code_word (m := ⟨5, 1⟩) (meth := k5m1) (c := k5c1) (by decide +kernel) rfl rfl rfl (by decide +kernel)
set_option maxRecDepth 65536 in
theorem w_c4 : (Jvm.Cond.code ({ cls := "java/lang/Object", name := "<init>", desc := "()V" } : Jvm.MethodName) object_method_1_code (1 : Nat) (Option.none : Option Jvm.ClassFile.FieldType)).before args0 about1 = true := code_word (m := ⟨0, 0⟩) (meth := k0m0) (c := k0c0) (by decide +kernel) rfl rfl rfl (by decide +kernel)
set_option maxRecDepth 65536 in
theorem w_c5 : (Jvm.Cond.code ({ cls := "java/lang/StringBuilder", name := "toString", desc := "()Ljava/lang/String;" } : Jvm.MethodName) jdk_67_method_42_code (1 : Nat) (Option.some (Jvm.ClassFile.FieldType.object "java/lang/String"))).before args0 about1 = true := code_word (m := ⟨8, 3⟩) (meth := k8m3) (c := k8c3) (by decide +kernel) rfl rfl rfl (by decide +kernel)
set_option maxRecDepth 65536 in
theorem w_c6 : (Jvm.Cond.code ({ cls := "java/lang/String", name := "<init>", desc := "(Ljava/lang/StringBuilder;)V" } : Jvm.MethodName) jdk_42_method_53_code (2 : Nat) (Option.none : Option Jvm.ClassFile.FieldType)).before args0 about1 = true := code_word (m := ⟨11, 1⟩) (meth := k11m1) (c := k11c1) (by decide +kernel) rfl rfl rfl (by decide +kernel)
set_option maxRecDepth 65536 in
theorem w_c7 : (Jvm.Cond.code ({ cls := "java/lang/String", name := "<init>", desc := "(Ljava/lang/AbstractStringBuilder;Ljava/lang/Void;)V" } : Jvm.MethodName) jdk_42_method_150_code (5 : Nat) (Option.none : Option Jvm.ClassFile.FieldType)).before args0 about1 = true := code_word (m := ⟨11, 4⟩) (meth := k11m4) (c := k11c4) (by decide +kernel) rfl rfl rfl (by decide +kernel)
set_option maxRecDepth 65536 in
theorem w_c8 : (Jvm.Cond.code ({ cls := "java/lang/AbstractStringBuilder", name := "getValue", desc := "()[B" } : Jvm.MethodName) jdk_68_method_64_code (1 : Nat) (Option.some (Jvm.ClassFile.FieldType.array Jvm.ClassFile.FieldType.byte))).before args0 about1 = true := code_word (m := ⟨5, 5⟩) (meth := k5m5) (c := k5c5) (by decide +kernel) rfl rfl rfl (by decide +kernel)
set_option maxRecDepth 65536 in
theorem w_c9 : (Jvm.Cond.code ({ cls := "java/lang/StringBuilder", name := "length", desc := "()I" } : Jvm.MethodName) jdk_67_method_93_code (1 : Nat) (Option.some Jvm.ClassFile.FieldType.int)).before args0 about1 = true := code_word (m := ⟨8, 4⟩) (meth := k8m4) (c := k8c4) (by decide +kernel) rfl rfl rfl (by decide +kernel)
set_option maxRecDepth 65536 in
theorem w_c10 : (Jvm.Cond.code ({ cls := "java/lang/AbstractStringBuilder", name := "length", desc := "()I" } : Jvm.MethodName) jdk_68_method_6_code (1 : Nat) (Option.some Jvm.ClassFile.FieldType.int)).before args0 about1 = true := code_word (m := ⟨5, 2⟩) (meth := k5m2) (c := k5c2) (by decide +kernel) rfl rfl rfl (by decide +kernel)
set_option maxRecDepth 65536 in
theorem w_c11 : (Jvm.Cond.code ({ cls := "java/lang/AbstractStringBuilder", name := "isLatin1", desc := "()Z" } : Jvm.MethodName) jdk_68_method_68_code (1 : Nat) (Option.some Jvm.ClassFile.FieldType.boolean)).before args0 about1 = true := code_word (m := ⟨5, 6⟩) (meth := k5m6) (c := k5c6) (by decide +kernel) rfl rfl rfl (by decide +kernel)
set_option maxRecDepth 65536 in
theorem w_c12 : (Jvm.Cond.code ({ cls := "java/util/Arrays", name := "copyOfRange", desc := "([BII)[B" } : Jvm.MethodName) jdk_65_method_132_code (3 : Nat) (Option.some (Jvm.ClassFile.FieldType.array Jvm.ClassFile.FieldType.byte))).before args0 about1 = true := code_word (m := ⟨12, 1⟩) (meth := k12m1) (c := k12c1) (by decide +kernel) rfl rfl rfl (by decide +kernel)
set_option maxRecDepth 65536 in
theorem w_c13 : (Jvm.Cond.code ({ cls := "java/lang/Math", name := "min", desc := "(II)I" } : Jvm.MethodName) jdk_29_method_69_code (2 : Nat) (Option.some Jvm.ClassFile.FieldType.int)).before args0 about1 = true := code_word (m := ⟨14, 2⟩) (meth := k14m2) (c := k14c2) (by decide +kernel) rfl rfl rfl (by decide +kernel)
set_option maxRecDepth 65536 in
theorem w_c14 : (Jvm.Cond.code ({ cls := "java/lang/Math", name := "max", desc := "(II)I" } : Jvm.MethodName) jdk_29_method_65_code (2 : Nat) (Option.some Jvm.ClassFile.FieldType.int)).before args0 about1 = true := code_word (m := ⟨14, 1⟩) (meth := k14m1) (c := k14c1) (by decide +kernel) rfl rfl rfl (by decide +kernel)
set_option maxRecDepth 65536 in
theorem w_c15 : (Jvm.Cond.code ({ cls := "com/example/encase/encase/codec/Base32EncodePinLaw", name := "keep", desc := "(JI)J" } : Jvm.MethodName) method_3_code (7 : Nat) (Option.some Jvm.ClassFile.FieldType.long)).before args0 about1 = true := code_word (m := ⟨1, 2⟩) (meth := k1m2) (c := k1c2) (by decide +kernel) rfl rfl rfl (by decide +kernel)
set_option maxRecDepth 65536 in
theorem w_c16 : (Jvm.Cond.code ({ cls := "com/example/encase/encase/codec/Base32EncodePinLaw", name := "g", desc := "(JI)I" } : Jvm.MethodName) method_4_code (3 : Nat) (Option.some Jvm.ClassFile.FieldType.int)).before args0 about1 = true := code_word (m := ⟨1, 3⟩) (meth := k1m3) (c := k1c3) (by decide +kernel) rfl rfl rfl (by decide +kernel)
set_option maxRecDepth 65536 in
theorem w_c17 : (Jvm.Cond.code ({ cls := "com/example/encase/encase/codec/Base32EncodePinLaw", name := "sym", desc := "(I)C" } : Jvm.MethodName) method_5_code (1 : Nat) (Option.some Jvm.ClassFile.FieldType.char)).before args0 about1 = true := code_word (m := ⟨1, 4⟩) (meth := k1m4) (c := k1c4) (by decide +kernel) rfl rfl rfl (by decide +kernel)
set_option maxRecDepth 65536 in
theorem w_c18 : (Jvm.Cond.code ({ cls := "java/lang/String", name := "length", desc := "()I" } : Jvm.MethodName) jdk_42_method_54_code (1 : Nat) (Option.some Jvm.ClassFile.FieldType.int)).before args0 about1 = true := code_word (m := ⟨11, 2⟩) (meth := k11m2) (c := k11c2) (by decide +kernel) rfl rfl rfl (by decide +kernel)
set_option maxRecDepth 65536 in
theorem w_c19 : (Jvm.Cond.code ({ cls := "java/lang/String", name := "coder", desc := "()B" } : Jvm.MethodName) jdk_42_method_152_code (1 : Nat) (Option.some Jvm.ClassFile.FieldType.byte)).before args0 about1 = true := code_word (m := ⟨11, 5⟩) (meth := k11m5) (c := k11c5) (by decide +kernel) rfl rfl rfl (by decide +kernel)
set_option maxRecDepth 65536 in
theorem w_c20 : (Jvm.Cond.code ({ cls := "com/example/encase/encase/codec/Base32EncodePinLaw", name := "at", desc := "(Ljava/lang/String;[CII)Z" } : Jvm.MethodName) method_6_code (4 : Nat) (Option.some Jvm.ClassFile.FieldType.boolean)).before args0 about1 = true := code_word (m := ⟨1, 5⟩) (meth := k1m5) (c := k1c5) (by decide +kernel) rfl rfl rfl (by decide +kernel)
set_option maxRecDepth 65536 in
theorem w_c21 : (Jvm.Cond.code ({ cls := "java/lang/StringBuilder", name := "append", desc := "(C)Ljava/lang/StringBuilder;" } : Jvm.MethodName) jdk_67_method_14_code (2 : Nat) (Option.some (Jvm.ClassFile.FieldType.object "java/lang/StringBuilder"))).before args0 about1 = true := code_word (m := ⟨8, 2⟩) (meth := k8m2) (c := k8c2) (by decide +kernel) rfl rfl rfl (by decide +kernel)
set_option maxRecDepth 65536 in
theorem w_c22 : (Jvm.Cond.code ({ cls := "java/lang/AbstractStringBuilder", name := "append", desc := "(C)Ljava/lang/AbstractStringBuilder;" } : Jvm.MethodName) jdk_68_method_31_code (2 : Nat) (Option.some (Jvm.ClassFile.FieldType.object "java/lang/AbstractStringBuilder"))).before args0 about1 = true := code_word (m := ⟨5, 4⟩) (meth := k5m4) (c := k5c4) (by decide +kernel) rfl rfl rfl (by decide +kernel)
set_option maxRecDepth 65536 in
theorem w_c23 : (Jvm.Cond.code ({ cls := "java/lang/AbstractStringBuilder", name := "ensureCapacityInternal", desc := "(I)V" } : Jvm.MethodName) jdk_68_method_9_code (3 : Nat) (Option.none : Option Jvm.ClassFile.FieldType)).before args0 about1 = true := code_word (m := ⟨5, 3⟩) (meth := k5m3) (c := k5c3) (by decide +kernel) rfl rfl rfl (by decide +kernel)
set_option maxRecDepth 65536 in
theorem w_c24 : (Jvm.Cond.code ({ cls := "java/lang/StringLatin1", name := "canEncode", desc := "(C)Z" } : Jvm.MethodName) jdk_43_method_3_code (1 : Nat) (Option.some Jvm.ClassFile.FieldType.boolean)).before args0 about1 = true := code_word (m := ⟨15, 2⟩) (meth := k15m2) (c := k15c2) (by decide +kernel) rfl rfl rfl (by decide +kernel)
set_option maxRecDepth 65536 in
theorem w_c25 : (Jvm.Cond.code ({ cls := "java/lang/String", name := "charAt", desc := "(I)C" } : Jvm.MethodName) jdk_42_method_56_code (2 : Nat) (Option.some Jvm.ClassFile.FieldType.char)).before args0 about1 = true := code_word (m := ⟨11, 3⟩) (meth := k11m3) (c := k11c3) (by decide +kernel) rfl rfl rfl (by decide +kernel)
set_option maxRecDepth 65536 in
theorem w_c26 : (Jvm.Cond.code ({ cls := "java/lang/String", name := "isLatin1", desc := "()Z" } : Jvm.MethodName) jdk_42_method_154_code (1 : Nat) (Option.some Jvm.ClassFile.FieldType.boolean)).before args0 about1 = true := code_word (m := ⟨11, 6⟩) (meth := k11m6) (c := k11c6) (by decide +kernel) rfl rfl rfl (by decide +kernel)
set_option maxRecDepth 65536 in
theorem w_c27 : (Jvm.Cond.code ({ cls := "java/lang/StringLatin1", name := "charAt", desc := "([BI)C" } : Jvm.MethodName) jdk_43_method_2_code (2 : Nat) (Option.some Jvm.ClassFile.FieldType.char)).before args0 about1 = true := code_word (m := ⟨15, 1⟩) (meth := k15m1) (c := k15c1) (by decide +kernel) rfl rfl rfl (by decide +kernel)
set_option maxRecDepth 65536 in
theorem w_c28 : (Jvm.Cond.code ({ cls := "java/lang/String", name := "checkIndex", desc := "(II)V" } : Jvm.MethodName) jdk_42_method_155_code (2 : Nat) (Option.none : Option Jvm.ClassFile.FieldType)).before args0 about1 = true := code_word (m := ⟨11, 7⟩) (meth := k11m7) (c := k11c7) (by decide +kernel) rfl rfl rfl (by decide +kernel)
set_option maxRecDepth 65536 in
theorem w_c29 : (Jvm.Cond.code ({ cls := "jdk/internal/util/Preconditions", name := "checkIndex", desc := "(IILjava/util/function/BiFunction;)I" } : Jvm.MethodName) jdk_41_method_11_code (3 : Nat) (Option.some Jvm.ClassFile.FieldType.int)).before args0 about1 = true := code_word (m := ⟨16, 1⟩) (meth := k16m1) (c := k16c1) (by decide +kernel) rfl rfl rfl (by decide +kernel)
def codes1 : List Jvm.Cond := [Jvm.Cond.code x code maxLocals ret, Jvm.Cond.code ({ cls := "com/example/encase/encase/codec/Base32", name := "encode", desc := "([B)Ljava/lang/String;" } : Jvm.MethodName) prog_16_method_2_code (8 : Nat) (Option.some (Jvm.ClassFile.FieldType.object "java/lang/String")), Jvm.Cond.code ({ cls := "java/lang/StringBuilder", name := "<init>", desc := "(I)V" } : Jvm.MethodName) jdk_67_method_2_code (2 : Nat) (Option.none : Option Jvm.ClassFile.FieldType), Jvm.Cond.code ({ cls := "java/lang/AbstractStringBuilder", name := "<init>", desc := "(I)V" } : Jvm.MethodName) jdk_68_method_2_code (2 : Nat) (Option.none : Option Jvm.ClassFile.FieldType), Jvm.Cond.code ({ cls := "java/lang/Object", name := "<init>", desc := "()V" } : Jvm.MethodName) object_method_1_code (1 : Nat) (Option.none : Option Jvm.ClassFile.FieldType), Jvm.Cond.code ({ cls := "java/lang/StringBuilder", name := "toString", desc := "()Ljava/lang/String;" } : Jvm.MethodName) jdk_67_method_42_code (1 : Nat) (Option.some (Jvm.ClassFile.FieldType.object "java/lang/String")), Jvm.Cond.code ({ cls := "java/lang/String", name := "<init>", desc := "(Ljava/lang/StringBuilder;)V" } : Jvm.MethodName) jdk_42_method_53_code (2 : Nat) (Option.none : Option Jvm.ClassFile.FieldType), Jvm.Cond.code ({ cls := "java/lang/String", name := "<init>", desc := "(Ljava/lang/AbstractStringBuilder;Ljava/lang/Void;)V" } : Jvm.MethodName) jdk_42_method_150_code (5 : Nat) (Option.none : Option Jvm.ClassFile.FieldType), Jvm.Cond.code ({ cls := "java/lang/AbstractStringBuilder", name := "getValue", desc := "()[B" } : Jvm.MethodName) jdk_68_method_64_code (1 : Nat) (Option.some (Jvm.ClassFile.FieldType.array Jvm.ClassFile.FieldType.byte)), Jvm.Cond.code ({ cls := "java/lang/StringBuilder", name := "length", desc := "()I" } : Jvm.MethodName) jdk_67_method_93_code (1 : Nat) (Option.some Jvm.ClassFile.FieldType.int), Jvm.Cond.code ({ cls := "java/lang/AbstractStringBuilder", name := "length", desc := "()I" } : Jvm.MethodName) jdk_68_method_6_code (1 : Nat) (Option.some Jvm.ClassFile.FieldType.int), Jvm.Cond.code ({ cls := "java/lang/AbstractStringBuilder", name := "isLatin1", desc := "()Z" } : Jvm.MethodName) jdk_68_method_68_code (1 : Nat) (Option.some Jvm.ClassFile.FieldType.boolean), Jvm.Cond.code ({ cls := "java/util/Arrays", name := "copyOfRange", desc := "([BII)[B" } : Jvm.MethodName) jdk_65_method_132_code (3 : Nat) (Option.some (Jvm.ClassFile.FieldType.array Jvm.ClassFile.FieldType.byte)), Jvm.Cond.code ({ cls := "java/lang/Math", name := "min", desc := "(II)I" } : Jvm.MethodName) jdk_29_method_69_code (2 : Nat) (Option.some Jvm.ClassFile.FieldType.int), Jvm.Cond.code ({ cls := "java/lang/Math", name := "max", desc := "(II)I" } : Jvm.MethodName) jdk_29_method_65_code (2 : Nat) (Option.some Jvm.ClassFile.FieldType.int), Jvm.Cond.code ({ cls := "com/example/encase/encase/codec/Base32EncodePinLaw", name := "keep", desc := "(JI)J" } : Jvm.MethodName) method_3_code (7 : Nat) (Option.some Jvm.ClassFile.FieldType.long), Jvm.Cond.code ({ cls := "com/example/encase/encase/codec/Base32EncodePinLaw", name := "g", desc := "(JI)I" } : Jvm.MethodName) method_4_code (3 : Nat) (Option.some Jvm.ClassFile.FieldType.int), Jvm.Cond.code ({ cls := "com/example/encase/encase/codec/Base32EncodePinLaw", name := "sym", desc := "(I)C" } : Jvm.MethodName) method_5_code (1 : Nat) (Option.some Jvm.ClassFile.FieldType.char), Jvm.Cond.code ({ cls := "java/lang/String", name := "length", desc := "()I" } : Jvm.MethodName) jdk_42_method_54_code (1 : Nat) (Option.some Jvm.ClassFile.FieldType.int), Jvm.Cond.code ({ cls := "java/lang/String", name := "coder", desc := "()B" } : Jvm.MethodName) jdk_42_method_152_code (1 : Nat) (Option.some Jvm.ClassFile.FieldType.byte), Jvm.Cond.code ({ cls := "com/example/encase/encase/codec/Base32EncodePinLaw", name := "at", desc := "(Ljava/lang/String;[CII)Z" } : Jvm.MethodName) method_6_code (4 : Nat) (Option.some Jvm.ClassFile.FieldType.boolean), Jvm.Cond.code ({ cls := "java/lang/StringBuilder", name := "append", desc := "(C)Ljava/lang/StringBuilder;" } : Jvm.MethodName) jdk_67_method_14_code (2 : Nat) (Option.some (Jvm.ClassFile.FieldType.object "java/lang/StringBuilder")), Jvm.Cond.code ({ cls := "java/lang/AbstractStringBuilder", name := "append", desc := "(C)Ljava/lang/AbstractStringBuilder;" } : Jvm.MethodName) jdk_68_method_31_code (2 : Nat) (Option.some (Jvm.ClassFile.FieldType.object "java/lang/AbstractStringBuilder")), Jvm.Cond.code ({ cls := "java/lang/AbstractStringBuilder", name := "ensureCapacityInternal", desc := "(I)V" } : Jvm.MethodName) jdk_68_method_9_code (3 : Nat) (Option.none : Option Jvm.ClassFile.FieldType), Jvm.Cond.code ({ cls := "java/lang/StringLatin1", name := "canEncode", desc := "(C)Z" } : Jvm.MethodName) jdk_43_method_3_code (1 : Nat) (Option.some Jvm.ClassFile.FieldType.boolean), Jvm.Cond.code ({ cls := "java/lang/String", name := "charAt", desc := "(I)C" } : Jvm.MethodName) jdk_42_method_56_code (2 : Nat) (Option.some Jvm.ClassFile.FieldType.char), Jvm.Cond.code ({ cls := "java/lang/String", name := "isLatin1", desc := "()Z" } : Jvm.MethodName) jdk_42_method_154_code (1 : Nat) (Option.some Jvm.ClassFile.FieldType.boolean), Jvm.Cond.code ({ cls := "java/lang/StringLatin1", name := "charAt", desc := "([BI)C" } : Jvm.MethodName) jdk_43_method_2_code (2 : Nat) (Option.some Jvm.ClassFile.FieldType.char), Jvm.Cond.code ({ cls := "java/lang/String", name := "checkIndex", desc := "(II)V" } : Jvm.MethodName) jdk_42_method_155_code (2 : Nat) (Option.none : Option Jvm.ClassFile.FieldType), Jvm.Cond.code ({ cls := "jdk/internal/util/Preconditions", name := "checkIndex", desc := "(IILjava/util/function/BiFunction;)I" } : Jvm.MethodName) jdk_41_method_11_code (3 : Nat) (Option.some Jvm.ClassFile.FieldType.int)]
set_option maxRecDepth 65536 in
theorem codes_eq : words1.filter isCode = codes1 := rfl
theorem w_codes : ∀ c ∈ words1.filter isCode, c.before args0 about1 = true := by
  rw [codes_eq]
  intro c hc
  simp only [codes1, List.mem_cons, List.not_mem_nil, or_false] at hc
  rcases hc with rfl | rfl | rfl | rfl | rfl | rfl | rfl | rfl | rfl | rfl | rfl | rfl | rfl | rfl | rfl | rfl | rfl | rfl | rfl | rfl | rfl | rfl | rfl | rfl | rfl | rfl | rfl | rfl | rfl | rfl
  · exact w_c0
  · exact w_c1
  · exact w_c2
  · exact w_c3
  · exact w_c4
  · exact w_c5
  · exact w_c6
  · exact w_c7
  · exact w_c8
  · exact w_c9
  · exact w_c10
  · exact w_c11
  · exact w_c12
  · exact w_c13
  · exact w_c14
  · exact w_c15
  · exact w_c16
  · exact w_c17
  · exact w_c18
  · exact w_c19
  · exact w_c20
  · exact w_c21
  · exact w_c22
  · exact w_c23
  · exact w_c24
  · exact w_c25
  · exact w_c26
  · exact w_c27
  · exact w_c28
  · exact w_c29
set_option maxRecDepth 65536 in
theorem w_t1 : (words1.take 24).all (fun c => isCode c || c.before args0 about1) = true := by decide +kernel
set_option maxRecDepth 65536 in
theorem w_t2 : ((words1.drop 24).take 24).all (fun c => isCode c || c.before args0 about1) = true := by decide +kernel
set_option maxRecDepth 65536 in
theorem w_t3 : (((words1.drop 24).drop 24).take 24).all (fun c => isCode c || c.before args0 about1) = true := by decide +kernel
set_option maxRecDepth 65536 in
theorem w_t4 : ((((words1.drop 24).drop 24).drop 24).take 24).all (fun c => isCode c || c.before args0 about1) = true := by decide +kernel
set_option maxRecDepth 65536 in
theorem w_t5 : (((((words1.drop 24).drop 24).drop 24).drop 24).take 24).all (fun c => isCode c || c.before args0 about1) = true := by decide +kernel
set_option maxRecDepth 65536 in
theorem w_t6 : ((((((words1.drop 24).drop 24).drop 24).drop 24).drop 24).take 24).all (fun c => isCode c || c.before args0 about1) = true := by decide +kernel
set_option maxRecDepth 65536 in
theorem w_t7 : ((((((words1.drop 24).drop 24).drop 24).drop 24).drop 24).drop 24).all (fun c => isCode c || c.before args0 about1) = true := by decide +kernel
theorem w_tables : (allAtoms (Jvm.Cond.code x code maxLocals ret :: tables_1)).before args0 about1 = true := by
  rw [allAtoms_all]
  show words1.all (fun c => c.before args0 about1) = true
  refine all_split ?_ w_codes
  rw [← List.take_append_drop 24 words1, List.all_append, w_t1, ← List.take_append_drop 24 (words1.drop 24), List.all_append, w_t2, ← List.take_append_drop 24 ((words1.drop 24).drop 24), List.all_append, w_t3, ← List.take_append_drop 24 (((words1.drop 24).drop 24).drop 24), List.all_append, w_t4, ← List.take_append_drop 24 ((((words1.drop 24).drop 24).drop 24).drop 24), List.all_append, w_t5, ← List.take_append_drop 24 (((((words1.drop 24).drop 24).drop 24).drop 24).drop 24), List.all_append, w_t6, w_t7]
  rfl
set_option maxRecDepth 65536 in
theorem w_rest : rest_1_c.before args0 about1 = true := by decide +kernel
set_option maxRecDepth 65536 in
theorem w_case : (Jvm.Cond.and given_1 narrow_1).before args0 about1 = true := by decide +kernel
theorem w_applies : (headSpec (Jvm.Cond.code x code maxLocals ret :: tables_1) room_1).applies x e0.platform about1 = true :=
  (Spec.applies_iff w_frames).mpr ⟨w_running, w_runnable, w_alone, w_named, w_hears, w_ripe, w_room, w_tables⟩
theorem atStart : AtStart classFile x code maxLocals ret World_1 tables_1 room_1 Calls_1 rest_1 Pre_1 launch0 p0 e0 about1 theMethod args0 below0 :=
  ⟨lists_1, trivial, launch0.admits_env _ _ _, launch0.least_env, fairChoices_fair.cas, fairChoices_fair.clock, w_frames, w_args, w_heap, w_applies, trivial, w_rest, w_case⟩
end start1
theorem witness_1 : WitnessClaimed_1 := ⟨start1.p0, start1.e0, start1.about1, start1.theMethod, start1.args0, start1.below0, start1.atStart⟩
end Jvm.Pilot.@@N@@
