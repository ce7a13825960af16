import JvmDerived
import JvmDerived.Pilot.@@N@@Statement
import JvmDerived.Pilot.@@N@@Code
set_option linter.unusedVariables false
set_option linter.unusedSimpArgs false
namespace Jvm.RoadKit
open Sem ClassFile Op Lib Jvm.Stand Jvm.Free Jvm.LawKit
section New
variable {p : Program} {l : Launch} {e : Env} {R : Room} {s : State} {m : MethodId} {args : Array Value} {below : List Frame} {meth : Method} {c : Code} {T : State} {locs : List Loc} {cells slots : Nat}
theorem retI (X : Stand p l e R s m args below meth c T locs cells slots) (hx : p.tables.exec = Jvm.exec) {pc : Nat} {Ls : Array Slot} {z : Int32} {rest : List Value} (hret : meth.sig.returnType = some .int) (hd : decode c.code pc = .ok (.ireturn, 1)) {fs : List Frame}
    (hl : ∀ (f : JFrame) (acts : List Action), f.method = m → f.locked = none → f.entered = [] → (doReturn e (T.setTop f) acts (some (.int z))).1 = T.setFrames fs) : Steps p.tables e below (T.setTop (mkF m pc Ls (.int z :: rest))) (T.setFrames fs) := by
  have hm' : T.vm.method? m = some meth := X.method'
  have hn : narrow .int (.int z) = .int z := rfl
  show Steps p.tables e below (T.setTop { method := m, pc := pc, locals := Ls, stack := _ :: rest, locked := none }) _
  jvm_step X.here [X.here.top, hx, hd, hm', hret, hn]
  first | (intro acts; rw [hl _ acts rfl rfl rfl]) | rw [hl _ _ rfl rfl rfl]
  exact Steps.refl _
end New
end Jvm.RoadKit
namespace Jvm.Pilot.@@N@@
open Jvm Jvm.ClassFile Sem Op Lib Jvm.Free Jvm.Stand Jvm.LawKit Jvm.RoadKit Bundle Jvm.Pilot.@@N@@.Jvm.D
section Own
variable {p : Program} {l : Launch} {e : Env} {R : Room} {s : State} {m : MethodId} {args : Array Value} {below : List Frame} {meth : Method} {c : Code} {T : State} {Z : State} {h : Heap} {n0 kc ks cells slots ml pc pc' pt : Nat} {Q : Option Value → Heap → Prop} {bc : ByteArray} {y : MethodName} {rt : Option FieldType} {L L' : Array Slot} {S : List Value} {a0 : Array Value}
def oG (p : Program) (e : Env) (below : List Frame) (s : State) (n0 kc ks : Nat) (Q : Option Value → Heap → Prop) (U : State) : Prop :=
  ∃ s₂ o, Steps p.tables e below U s₂ ∧ s₂.status = .running ∧ Ended s₂ below o ∧ ∃ v L, o = .returned v ∧ (Q v s₂.heap ∧ Fr n0 L) ∧ FrameEnd s o s₂ L kc ks
def oH (p : Program) (l : Launch) (e : Env) (R : Room) (s : State) (m : MethodId) (args : Array Value) (below : List Frame) (meth : Method) (c : Code) (bc : ByteArray) (ml : Nat) (y : MethodName) (rt : Option FieldType) (Z : State) (n0 : Nat) (T : State) (h : Heap) (cells slots : Nat) : Prop :=
  ∃ locs, Stand p l e R s m args below meth c T locs cells slots ∧ T.heap = h ∧ Fr n0 locs ∧ p.tables.exec = Jvm.exec ∧ c.code = bc ∧ c.maxLocals = ml ∧ Z.Warmed39 s.vm ∧ s.vm.findClass y.cls = some m.cls ∧ meth.name = y.name ∧ meth.sig.returnType = rt ∧ meth.locks = false ∧ n0 ≤ s.heap.size
theorem oG.go {U U' : State} (f : ∀ t, Steps p.tables e below U' t → Steps p.tables e below U t) (k : oG p e below s n0 kc ks Q U') : oG p e below s n0 kc ks Q U := by
  obtain ⟨s2, o, h1, r⟩ := k
  exact ⟨s2, o, f _ h1, r⟩
theorem oG.mono {U : State} {Q' : Option Value → Heap → Prop} (k : oG p e below s n0 kc ks Q' U) (f : ∀ v h, Q' v h → Q v h) : oG p e below s n0 kc ks Q U := by
  obtain ⟨s2, o, h1, h2, h3, v, L, h4, ⟨h5, h6⟩, h7⟩ := k
  exact ⟨s2, o, h1, h2, h3, v, L, h4, ⟨f _ _ h5, h6⟩, h7⟩
theorem oH.le (H : oH p l e R s m args below meth c bc ml y rt Z n0 T h cells slots) : n0 ≤ h.size := by
  obtain ⟨locs, X, eT, N, -, -, -, -, -, -, -, -, hn⟩ := H
  have q : s.heap.size ≤ T.heap.size := X.same.2.1
  rw [← eT]; exact Nat.le_trans hn q
theorem oH.more {cells' slots' : Nat} (H : oH p l e R s m args below meth c bc ml y rt Z n0 T h cells slots) (hc : cells ≤ cells') (hs : slots ≤ slots') : oH p l e R s m args below meth c bc ml y rt Z n0 T h cells' slots' := by
  obtain ⟨locs, X, r⟩ := H
  exact ⟨locs, X.more hc hs, r⟩
/-- a method's contract: called with these arguments at the heap h0 it comes back with Q, within the room -/
def oC (l : Launch) (Z : State) (n0 : Nat) (y : MethodName) (bc : ByteArray) (ml : Nat) (rt : Option FieldType) (rm : Room) (kc ks : Nat) (as' : Array Value) (h0 : Heap) (Q : Option Value → Heap → Prop) : Prop :=
  ∀ ws : List Jvm.Cond, MetFree l y (head1 (Jvm.Cond.code y bc ml rt :: ws) rm) (fun a U => a = as' ∧ Z.Warmed39 U.vm ∧ U.heap = h0) (fun _ _ _ _ _ => True) (fun _ U o U' => ∃ v L, o = .returned v ∧ (Q v U'.heap ∧ Fr n0 L) ∧ FrameEnd U o U' L kc ks)
theorem oC.of {rm : Room} {as' : Array Value} {h0 : Heap} (hpl : plainFor y = true) (hn : n0 ≤ h0.size) (hef : ∀ m, entryFrame m as' ml = mkF m 0 L [])
    (body : ∀ (p : Program) (e : Env) (s : State) (m : MethodId) (below : List Frame) (meth : Method) (c : Code) (T : State), oH p l e rm s m as' below meth c bc ml y rt Z n0 T h0 0 0 → oG p e below s n0 kc ks Q (T.setTop (mkF m 0 L []))) : oC l Z n0 y bc ml rt rm kc ks as' h0 Q := by
  intro ws
  refine MetFree.of_bodySF hpl hisR ?_
  intro p e s m args below meth c s₁ Bd hml0 hP hK
  obtain ⟨rfl, hZ, hh⟩ := hP
  have X0 : Stand p l e rm s m args below meth c s₁ [] 0 0 := Stand.of_body Bd
  have e0 : s₁.heap = h0 := by rw [← hh, Bd.state]; rfl
  have k := body p e s m below meth c s₁ ⟨[], X0, e0, Fr.nil n0, Bd.exec, Bd.bytes, hml0, hZ, findClass_of_methodNamed Bd.named, (name_of_methodNamed Bd.named Bd.method).1, Bd.returns, Bd.notSynchronized, by rw [hh]; exact hn⟩
  rw [hef m]; exact k
theorem oC.mono {rm : Room} {as' : Array Value} {h0 : Heap} {Q' : Option Value → Heap → Prop} (k : oC l Z n0 y bc ml rt rm kc ks as' h0 Q') (f : ∀ v h, Q' v h → Q v h) : oC l Z n0 y bc ml rt rm kc ks as' h0 Q := by
  intro ws p e h1 h2 h3 s m args below h4 h5 h6 h7
  obtain ⟨n, o, a1, a2, a3, v, L, a4, ⟨a5, a6⟩, a7⟩ := k ws p e h1 h2 h3 s m args below h4 h5 h6 h7
  exact ⟨n, o, a1, a2, a3, v, L, a4, ⟨f _ _ a5, a6⟩, a7⟩
theorem o_aloadN (H : oH p l e R s m args below meth c bc ml y rt Z n0 T h cells slots) {k : Fin 4} {v : Value} (hl : L[k.val]? = some (.val v)) (hv : v.isRef = true) (hd : decode bc pc = .ok (.aload_n k, 1)) (hp : pc + 1 = pc') (k : oG p e below s n0 kc ks Q (T.setTop (mkF m pc' L (v :: S)))) : oG p e below s n0 kc ks Q (T.setTop (mkF m pc L S)) := by
  obtain ⟨locs, X, eT, N, hx, hby, hml, hZ, hown, hnm, hret, hlk, hn⟩ := H
  subst hp
  exact oG.go (fun t hr => XS.aloadN X.here hx rfl (hb hby hd) hl hv hr) k
theorem o_iloadN (H : oH p l e R s m args below meth c bc ml y rt Z n0 T h cells slots) {k : Fin 4} {v : Int32} (hl : L[k.val]? = some (.val (.int v))) (hd : decode bc pc = .ok (.iload_n k, 1)) (hp : pc + 1 = pc') (k : oG p e below s n0 kc ks Q (T.setTop (mkF m pc' L (.int v :: S)))) : oG p e below s n0 kc ks Q (T.setTop (mkF m pc L S)) := by
  obtain ⟨locs, X, eT, N, hx, hby, hml, hZ, hown, hnm, hret, hlk, hn⟩ := H
  subst hp
  exact oG.go (fun t hr => XS.iloadN X.here hx rfl (hb hby hd) hl hr) k
theorem o_lloadN (H : oH p l e R s m args below meth c bc ml y rt Z n0 T h cells slots) {k : Fin 4} {v : Int64} (hl : L[k.val]? = some (.val (.long v))) (hd : decode bc pc = .ok (.lload_n k, 1)) (hp : pc + 1 = pc') (k : oG p e below s n0 kc ks Q (T.setTop (mkF m pc' L (.long v :: S)))) : oG p e below s n0 kc ks Q (T.setTop (mkF m pc L S)) := by
  obtain ⟨locs, X, eT, N, hx, hby, hml, hZ, hown, hnm, hret, hlk, hn⟩ := H
  subst hp
  exact oG.go (fun t hr => XT.lloadN X.here hx rfl (hb hby hd) hl hr) k
theorem o_astoreN (H : oH p l e R s m args below meth c bc ml y rt Z n0 T h cells slots) {k : Fin 4} {v : Value} (hl : storeLocals L k.val v = some L') (hv : v.isRef = true) (hd : decode bc pc = .ok (.astore_n k, 1)) (hp : pc + 1 = pc') (k : oG p e below s n0 kc ks Q (T.setTop (mkF m pc' L' S))) : oG p e below s n0 kc ks Q (T.setTop (mkF m pc L (v :: S))) := by
  obtain ⟨locs, X, eT, N, hx, hby, hml, hZ, hown, hnm, hret, hlk, hn⟩ := H
  subst hp
  exact oG.go (fun t hr => XS.astoreN X.here hx rfl (hb hby hd) rfl hv hl hr) k
theorem o_istoreN (H : oH p l e R s m args below meth c bc ml y rt Z n0 T h cells slots) {k : Fin 4} {v : Int32} (hl : storeLocals L k.val (.int v) = some L') (hd : decode bc pc = .ok (.istore_n k, 1)) (hp : pc + 1 = pc') (k : oG p e below s n0 kc ks Q (T.setTop (mkF m pc' L' S))) : oG p e below s n0 kc ks Q (T.setTop (mkF m pc L (.int v :: S))) := by
  obtain ⟨locs, X, eT, N, hx, hby, hml, hZ, hown, hnm, hret, hlk, hn⟩ := H
  subst hp
  exact oG.go (fun t hr => XS.istoreN X.here hx rfl (hb hby hd) rfl hl hr) k
theorem o_lstoreN (H : oH p l e R s m args below meth c bc ml y rt Z n0 T h cells slots) {k : Fin 4} {v : Int64} (hl : storeLocals L k.val (.long v) = some L') (hd : decode bc pc = .ok (.lstore_n k, 1)) (hp : pc + 1 = pc') (k : oG p e below s n0 kc ks Q (T.setTop (mkF m pc' L' S))) : oG p e below s n0 kc ks Q (T.setTop (mkF m pc L (.long v :: S))) := by
  obtain ⟨locs, X, eT, N, hx, hby, hml, hZ, hown, hnm, hret, hlk, hn⟩ := H
  subst hp
  exact oG.go (fun t hr => XT.lstoreN X.here hx rfl (hb hby hd) rfl hl hr) k
theorem o_aload (H : oH p l e R s m args below meth c bc ml y rt Z n0 T h cells slots) {k : Nat} {v : Value} (hl : L[k]? = some (.val v)) (hv : v.isRef = true) (hd : decode bc pc = .ok (.aload k, 2)) (hp : pc + 2 = pc') (k : oG p e below s n0 kc ks Q (T.setTop (mkF m pc' L (v :: S)))) : oG p e below s n0 kc ks Q (T.setTop (mkF m pc L S)) := by
  obtain ⟨locs, X, eT, N, hx, hby, hml, hZ, hown, hnm, hret, hlk, hn⟩ := H
  subst hp
  exact oG.go (fun t hr => XS.aload X.here hx rfl (hb hby hd) hl hv hr) k
theorem o_iload (H : oH p l e R s m args below meth c bc ml y rt Z n0 T h cells slots) {k : Nat} {v : Int32} (hl : L[k]? = some (.val (.int v))) (hd : decode bc pc = .ok (.iload k, 2)) (hp : pc + 2 = pc') (k : oG p e below s n0 kc ks Q (T.setTop (mkF m pc' L (.int v :: S)))) : oG p e below s n0 kc ks Q (T.setTop (mkF m pc L S)) := by
  obtain ⟨locs, X, eT, N, hx, hby, hml, hZ, hown, hnm, hret, hlk, hn⟩ := H
  subst hp
  exact oG.go (fun t hr => XS.iload X.here hx rfl (hb hby hd) hl hr) k
theorem o_lload (H : oH p l e R s m args below meth c bc ml y rt Z n0 T h cells slots) {k : Nat} {v : Int64} (hl : L[k]? = some (.val (.long v))) (hd : decode bc pc = .ok (.lload k, 2)) (hp : pc + 2 = pc') (k : oG p e below s n0 kc ks Q (T.setTop (mkF m pc' L (.long v :: S)))) : oG p e below s n0 kc ks Q (T.setTop (mkF m pc L S)) := by
  obtain ⟨locs, X, eT, N, hx, hby, hml, hZ, hown, hnm, hret, hlk, hn⟩ := H
  subst hp
  exact oG.go (fun t hr => XT.lload X.here hx rfl (hb hby hd) hl hr) k
theorem o_astore (H : oH p l e R s m args below meth c bc ml y rt Z n0 T h cells slots) {k : Nat} {v : Value} (hl : storeLocals L k v = some L') (hv : v.isRef = true) (hd : decode bc pc = .ok (.astore k, 2)) (hp : pc + 2 = pc') (k : oG p e below s n0 kc ks Q (T.setTop (mkF m pc' L' S))) : oG p e below s n0 kc ks Q (T.setTop (mkF m pc L (v :: S))) := by
  obtain ⟨locs, X, eT, N, hx, hby, hml, hZ, hown, hnm, hret, hlk, hn⟩ := H
  subst hp
  exact oG.go (fun t hr => XS.astore X.here hx rfl (hb hby hd) rfl hv hl hr) k
theorem o_istore (H : oH p l e R s m args below meth c bc ml y rt Z n0 T h cells slots) {k : Nat} {v : Int32} (hl : storeLocals L k (.int v) = some L') (hd : decode bc pc = .ok (.istore k, 2)) (hp : pc + 2 = pc') (k : oG p e below s n0 kc ks Q (T.setTop (mkF m pc' L' S))) : oG p e below s n0 kc ks Q (T.setTop (mkF m pc L (.int v :: S))) := by
  obtain ⟨locs, X, eT, N, hx, hby, hml, hZ, hown, hnm, hret, hlk, hn⟩ := H
  subst hp
  exact oG.go (fun t hr => XS.istore X.here hx rfl (hb hby hd) rfl hl hr) k
theorem o_lstore (H : oH p l e R s m args below meth c bc ml y rt Z n0 T h cells slots) {k : Nat} {v : Int64} (hl : storeLocals L k (.long v) = some L') (hd : decode bc pc = .ok (.lstore k, 2)) (hp : pc + 2 = pc') (k : oG p e below s n0 kc ks Q (T.setTop (mkF m pc' L' S))) : oG p e below s n0 kc ks Q (T.setTop (mkF m pc L (.long v :: S))) := by
  obtain ⟨locs, X, eT, N, hx, hby, hml, hZ, hown, hnm, hret, hlk, hn⟩ := H
  subst hp
  exact oG.go (fun t hr => XT.lstore X.here hx rfl (hb hby hd) rfl hl hr) k
theorem o_dloadN (H : oH p l e R s m args below meth c bc ml y rt Z n0 T h cells slots) {k : Fin 4} {v : UInt64} (hl : L[k.val]? = some (.val (.double v))) (hd : decode bc pc = .ok (.dload_n k, 1)) (hp : pc + 1 = pc') (k : oG p e below s n0 kc ks Q (T.setTop (mkF m pc' L (.double v :: S)))) : oG p e below s n0 kc ks Q (T.setTop (mkF m pc L S)) := by
  obtain ⟨locs, X, eT, N, hx, hby, hml, hZ, hown, hnm, hret, hlk, hn⟩ := H
  subst hp
  exact oG.go (fun t hr => XS.dloadN X.here hx rfl (hb hby hd) hl hr) k
theorem o_dstoreN (H : oH p l e R s m args below meth c bc ml y rt Z n0 T h cells slots) {k : Fin 4} {v : UInt64} (hl : storeLocals L k.val (.double v) = some L') (hd : decode bc pc = .ok (.dstore_n k, 1)) (hp : pc + 1 = pc') (k : oG p e below s n0 kc ks Q (T.setTop (mkF m pc' L' S))) : oG p e below s n0 kc ks Q (T.setTop (mkF m pc L (.double v :: S))) := by
  obtain ⟨locs, X, eT, N, hx, hby, hml, hZ, hown, hnm, hret, hlk, hn⟩ := H
  subst hp
  exact oG.go (fun t hr => XS.dstoreN X.here hx rfl (hb hby hd) rfl hl hr) k
theorem o_dload (H : oH p l e R s m args below meth c bc ml y rt Z n0 T h cells slots) {k : Nat} {v : UInt64} (hl : L[k]? = some (.val (.double v))) (hd : decode bc pc = .ok (.dload k, 2)) (hp : pc + 2 = pc') (k : oG p e below s n0 kc ks Q (T.setTop (mkF m pc' L (.double v :: S)))) : oG p e below s n0 kc ks Q (T.setTop (mkF m pc L S)) := by
  obtain ⟨locs, X, eT, N, hx, hby, hml, hZ, hown, hnm, hret, hlk, hn⟩ := H
  subst hp
  exact oG.go (fun t hr => XS.dload X.here hx rfl (hb hby hd) hl hr) k
theorem o_dstore (H : oH p l e R s m args below meth c bc ml y rt Z n0 T h cells slots) {k : Nat} {v : UInt64} (hl : storeLocals L k (.double v) = some L') (hd : decode bc pc = .ok (.dstore k, 2)) (hp : pc + 2 = pc') (k : oG p e below s n0 kc ks Q (T.setTop (mkF m pc' L' S))) : oG p e below s n0 kc ks Q (T.setTop (mkF m pc L (.double v :: S))) := by
  obtain ⟨locs, X, eT, N, hx, hby, hml, hZ, hown, hnm, hret, hlk, hn⟩ := H
  subst hp
  exact oG.go (fun t hr => XS.dstore X.here hx rfl (hb hby hd) rfl hl hr) k
theorem o_dconst0 (H : oH p l e R s m args below meth c bc ml y rt Z n0 T h cells slots)   (hd : decode bc pc = .ok (.dconst 0, 1)) (hp : pc + 1 = pc') (k : oG p e below s n0 kc ks Q (T.setTop (mkF m pc' L (.double 0 :: S)))) : oG p e below s n0 kc ks Q (T.setTop (mkF m pc L S)) := by
  obtain ⟨locs, X, eT, N, hx, hby, hml, hZ, hown, hnm, hret, hlk, hn⟩ := H
  subst hp
  exact oG.go (fun t hr => XS.dconst0 X.here hx rfl (hb hby hd) rfl hr) k
theorem o_i2d (H : oH p l e R s m args below meth c bc ml y rt Z n0 T h cells slots) {x : Int32}  (hd : decode bc pc = .ok (.i2d, 1)) (hp : pc + 1 = pc') (k : oG p e below s n0 kc ks Q (T.setTop (mkF m pc' L (.double (FP.i2d x) :: S)))) : oG p e below s n0 kc ks Q (T.setTop (mkF m pc L (.int x :: S))) := by
  obtain ⟨locs, X, eT, N, hx, hby, hml, hZ, hown, hnm, hret, hlk, hn⟩ := H
  subst hp
  exact oG.go (fun t hr => XS.i2dS X.here hx rfl (hb hby hd) rfl rfl hr) k
theorem o_ddiv (H : oH p l e R s m args below meth c bc ml y rt Z n0 T h cells slots) {x z : UInt64} (hnn : Jvm.Free.Fl.NoNaN64 (FP.ddiv x z)) (hd : decode bc pc = .ok (.ddiv, 1)) (hp : pc + 1 = pc') (k : oG p e below s n0 kc ks Q (T.setTop (mkF m pc' L (.double (FP.ddiv x z) :: S)))) : oG p e below s n0 kc ks Q (T.setTop (mkF m pc L (.double z :: .double x :: S))) := by
  obtain ⟨locs, X, eT, N, hx, hby, hml, hZ, hown, hnm, hret, hlk, hn⟩ := H
  subst hp
  exact oG.go (fun t hr => XS.ddivS X.here hx rfl (hb hby hd) rfl hnn rfl hr) k
theorem o_dcmpl (H : oH p l e R s m args below meth c bc ml y rt Z n0 T h cells slots) {x z : UInt64}  (hd : decode bc pc = .ok (.dcmp .l, 1)) (hp : pc + 1 = pc') (k : oG p e below s n0 kc ks Q (T.setTop (mkF m pc' L (.int (cmpValue (FP.dcmp x z) .l) :: S)))) : oG p e below s n0 kc ks Q (T.setTop (mkF m pc L (.double z :: .double x :: S))) := by
  obtain ⟨locs, X, eT, N, hx, hby, hml, hZ, hown, hnm, hret, hlk, hn⟩ := H
  subst hp
  exact oG.go (fun t hr => XS.dcmpS X.here hx rfl (hb hby hd) rfl rfl hr) k
theorem o_iconst (H : oH p l e R s m args below meth c bc ml y rt Z n0 T h cells slots) {i : Int} (v : Int32) (hv : Int32.ofInt i = v) (hd : decode bc pc = .ok (.iconst i, 1)) (hp : pc + 1 = pc') (k : oG p e below s n0 kc ks Q (T.setTop (mkF m pc' L (.int v :: S)))) : oG p e below s n0 kc ks Q (T.setTop (mkF m pc L S)) := by
  obtain ⟨locs, X, eT, N, hx, hby, hml, hZ, hown, hnm, hret, hlk, hn⟩ := H
  subst hp
  exact oG.go (fun t hr => XT.iconstV X.here hx rfl v (hb hby hd) hv hr) k
theorem o_bipush (H : oH p l e R s m args below meth c bc ml y rt Z n0 T h cells slots) {i : Int} (v : Int32) (hv : (Int8.ofInt i).toInt32 = v) (hd : decode bc pc = .ok (.bipush i, 2)) (hp : pc + 2 = pc') (k : oG p e below s n0 kc ks Q (T.setTop (mkF m pc' L (.int v :: S)))) : oG p e below s n0 kc ks Q (T.setTop (mkF m pc L S)) := by
  obtain ⟨locs, X, eT, N, hx, hby, hml, hZ, hown, hnm, hret, hlk, hn⟩ := H
  subst hp
  exact oG.go (fun t hr => XT.bipushV X.here hx rfl v (hb hby hd) hv hr) k
theorem o_sipush (H : oH p l e R s m args below meth c bc ml y rt Z n0 T h cells slots) {i : Int} (v : Int32) (hv : (Int16.ofInt i).toInt32 = v) (hd : decode bc pc = .ok (.sipush i, 3)) (hp : pc + 3 = pc') (k : oG p e below s n0 kc ks Q (T.setTop (mkF m pc' L (.int v :: S)))) : oG p e below s n0 kc ks Q (T.setTop (mkF m pc L S)) := by
  obtain ⟨locs, X, eT, N, hx, hby, hml, hZ, hown, hnm, hret, hlk, hn⟩ := H
  subst hp
  exact oG.go (fun t hr => XT.sipushV X.here hx rfl v (hb hby hd) hv hr) k
theorem o_lconst (H : oH p l e R s m args below meth c bc ml y rt Z n0 T h cells slots) {i : Fin 2} (v : Int64) (hv : Int64.ofNat i = v) (hd : decode bc pc = .ok (.lconst i, 1)) (hp : pc + 1 = pc') (k : oG p e below s n0 kc ks Q (T.setTop (mkF m pc' L (.long v :: S)))) : oG p e below s n0 kc ks Q (T.setTop (mkF m pc L S)) := by
  obtain ⟨locs, X, eT, N, hx, hby, hml, hZ, hown, hnm, hret, hlk, hn⟩ := H
  subst hp
  exact oG.go (fun t hr => XT.lconstV X.here hx rfl v (hb hby hd) hv hr) k
theorem o_aconst_null (H : oH p l e R s m args below meth c bc ml y rt Z n0 T h cells slots)   (hd : decode bc pc = .ok (.aconst_null, 1)) (hp : pc + 1 = pc') (k : oG p e below s n0 kc ks Q (T.setTop (mkF m pc' L (.null :: S)))) : oG p e below s n0 kc ks Q (T.setTop (mkF m pc L S)) := by
  obtain ⟨locs, X, eT, N, hx, hby, hml, hZ, hown, hnm, hret, hlk, hn⟩ := H
  subst hp
  exact oG.go (fun t hr => XS.aconstNull X.here hx rfl (hb hby hd) hr) k
theorem o_iadd (H : oH p l e R s m args below meth c bc ml y rt Z n0 T h cells slots) {x z : Int32}  (hd : decode bc pc = .ok (.iadd, 1)) (hp : pc + 1 = pc') (k : oG p e below s n0 kc ks Q (T.setTop (mkF m pc' L (.int (x + z) :: S)))) : oG p e below s n0 kc ks Q (T.setTop (mkF m pc L (.int z :: .int x :: S))) := by
  obtain ⟨locs, X, eT, N, hx, hby, hml, hZ, hown, hnm, hret, hlk, hn⟩ := H
  subst hp
  exact oG.go (fun t hr => XS.iadd X.here hx rfl (hb hby hd) rfl hr) k
theorem o_isub (H : oH p l e R s m args below meth c bc ml y rt Z n0 T h cells slots) {x z : Int32}  (hd : decode bc pc = .ok (.isub, 1)) (hp : pc + 1 = pc') (k : oG p e below s n0 kc ks Q (T.setTop (mkF m pc' L (.int (x - z) :: S)))) : oG p e below s n0 kc ks Q (T.setTop (mkF m pc L (.int z :: .int x :: S))) := by
  obtain ⟨locs, X, eT, N, hx, hby, hml, hZ, hown, hnm, hret, hlk, hn⟩ := H
  subst hp
  exact oG.go (fun t hr => XS.isub X.here hx rfl (hb hby hd) rfl hr) k
theorem o_imul (H : oH p l e R s m args below meth c bc ml y rt Z n0 T h cells slots) {x z : Int32}  (hd : decode bc pc = .ok (.imul, 1)) (hp : pc + 1 = pc') (k : oG p e below s n0 kc ks Q (T.setTop (mkF m pc' L (.int (x * z) :: S)))) : oG p e below s n0 kc ks Q (T.setTop (mkF m pc L (.int z :: .int x :: S))) := by
  obtain ⟨locs, X, eT, N, hx, hby, hml, hZ, hown, hnm, hret, hlk, hn⟩ := H
  subst hp
  exact oG.go (fun t hr => XS.imul X.here hx rfl (hb hby hd) rfl hr) k
theorem o_iand (H : oH p l e R s m args below meth c bc ml y rt Z n0 T h cells slots) {x z : Int32}  (hd : decode bc pc = .ok (.iand, 1)) (hp : pc + 1 = pc') (k : oG p e below s n0 kc ks Q (T.setTop (mkF m pc' L (.int (x &&& z) :: S)))) : oG p e below s n0 kc ks Q (T.setTop (mkF m pc L (.int z :: .int x :: S))) := by
  obtain ⟨locs, X, eT, N, hx, hby, hml, hZ, hown, hnm, hret, hlk, hn⟩ := H
  subst hp
  exact oG.go (fun t hr => XS.iand X.here hx rfl (hb hby hd) rfl hr) k
theorem o_ior (H : oH p l e R s m args below meth c bc ml y rt Z n0 T h cells slots) {x z : Int32}  (hd : decode bc pc = .ok (.ior, 1)) (hp : pc + 1 = pc') (k : oG p e below s n0 kc ks Q (T.setTop (mkF m pc' L (.int (x ||| z) :: S)))) : oG p e below s n0 kc ks Q (T.setTop (mkF m pc L (.int z :: .int x :: S))) := by
  obtain ⟨locs, X, eT, N, hx, hby, hml, hZ, hown, hnm, hret, hlk, hn⟩ := H
  subst hp
  exact oG.go (fun t hr => XT.ior X.here hx rfl (hb hby hd) rfl hr) k
theorem o_ixor (H : oH p l e R s m args below meth c bc ml y rt Z n0 T h cells slots) {x z : Int32}  (hd : decode bc pc = .ok (.ixor, 1)) (hp : pc + 1 = pc') (k : oG p e below s n0 kc ks Q (T.setTop (mkF m pc' L (.int (x ^^^ z) :: S)))) : oG p e below s n0 kc ks Q (T.setTop (mkF m pc L (.int z :: .int x :: S))) := by
  obtain ⟨locs, X, eT, N, hx, hby, hml, hZ, hown, hnm, hret, hlk, hn⟩ := H
  subst hp
  exact oG.go (fun t hr => XT.ixor X.here hx rfl (hb hby hd) rfl hr) k
theorem o_ishl (H : oH p l e R s m args below meth c bc ml y rt Z n0 T h cells slots) {x z : Int32}  (hd : decode bc pc = .ok (.ishl, 1)) (hp : pc + 1 = pc') (k : oG p e below s n0 kc ks Q (T.setTop (mkF m pc' L (.int (x <<< (z &&& 31)) :: S)))) : oG p e below s n0 kc ks Q (T.setTop (mkF m pc L (.int z :: .int x :: S))) := by
  obtain ⟨locs, X, eT, N, hx, hby, hml, hZ, hown, hnm, hret, hlk, hn⟩ := H
  subst hp
  exact oG.go (fun t hr => XT.ishl X.here hx rfl (hb hby hd) rfl hr) k
theorem o_ishr (H : oH p l e R s m args below meth c bc ml y rt Z n0 T h cells slots) {x z : Int32}  (hd : decode bc pc = .ok (.ishr, 1)) (hp : pc + 1 = pc') (k : oG p e below s n0 kc ks Q (T.setTop (mkF m pc' L (.int (x >>> (z &&& 31)) :: S)))) : oG p e below s n0 kc ks Q (T.setTop (mkF m pc L (.int z :: .int x :: S))) := by
  obtain ⟨locs, X, eT, N, hx, hby, hml, hZ, hown, hnm, hret, hlk, hn⟩ := H
  subst hp
  exact oG.go (fun t hr => XT.ishr X.here hx rfl (hb hby hd) rfl hr) k
theorem o_iushr (H : oH p l e R s m args below meth c bc ml y rt Z n0 T h cells slots) {x z : Int32}  (hd : decode bc pc = .ok (.iushr, 1)) (hp : pc + 1 = pc') (k : oG p e below s n0 kc ks Q (T.setTop (mkF m pc' L (.int (XT.ushr x z) :: S)))) : oG p e below s n0 kc ks Q (T.setTop (mkF m pc L (.int z :: .int x :: S))) := by
  obtain ⟨locs, X, eT, N, hx, hby, hml, hZ, hown, hnm, hret, hlk, hn⟩ := H
  subst hp
  exact oG.go (fun t hr => XT.iushr X.here hx rfl (hb hby hd) rfl hr) k
theorem o_ladd (H : oH p l e R s m args below meth c bc ml y rt Z n0 T h cells slots) {x z : Int64}  (hd : decode bc pc = .ok (.ladd, 1)) (hp : pc + 1 = pc') (k : oG p e below s n0 kc ks Q (T.setTop (mkF m pc' L (.long (x + z) :: S)))) : oG p e below s n0 kc ks Q (T.setTop (mkF m pc L (.long z :: .long x :: S))) := by
  obtain ⟨locs, X, eT, N, hx, hby, hml, hZ, hown, hnm, hret, hlk, hn⟩ := H
  subst hp
  exact oG.go (fun t hr => XT.ladd X.here hx rfl (hb hby hd) rfl hr) k
theorem o_lsub (H : oH p l e R s m args below meth c bc ml y rt Z n0 T h cells slots) {x z : Int64}  (hd : decode bc pc = .ok (.lsub, 1)) (hp : pc + 1 = pc') (k : oG p e below s n0 kc ks Q (T.setTop (mkF m pc' L (.long (x - z) :: S)))) : oG p e below s n0 kc ks Q (T.setTop (mkF m pc L (.long z :: .long x :: S))) := by
  obtain ⟨locs, X, eT, N, hx, hby, hml, hZ, hown, hnm, hret, hlk, hn⟩ := H
  subst hp
  exact oG.go (fun t hr => XT.lsub X.here hx rfl (hb hby hd) rfl hr) k
theorem o_lmul (H : oH p l e R s m args below meth c bc ml y rt Z n0 T h cells slots) {x z : Int64}  (hd : decode bc pc = .ok (.lmul, 1)) (hp : pc + 1 = pc') (k : oG p e below s n0 kc ks Q (T.setTop (mkF m pc' L (.long (x * z) :: S)))) : oG p e below s n0 kc ks Q (T.setTop (mkF m pc L (.long z :: .long x :: S))) := by
  obtain ⟨locs, X, eT, N, hx, hby, hml, hZ, hown, hnm, hret, hlk, hn⟩ := H
  subst hp
  exact oG.go (fun t hr => XT.lmul X.here hx rfl (hb hby hd) rfl hr) k
theorem o_land (H : oH p l e R s m args below meth c bc ml y rt Z n0 T h cells slots) {x z : Int64}  (hd : decode bc pc = .ok (.land, 1)) (hp : pc + 1 = pc') (k : oG p e below s n0 kc ks Q (T.setTop (mkF m pc' L (.long (x &&& z) :: S)))) : oG p e below s n0 kc ks Q (T.setTop (mkF m pc L (.long z :: .long x :: S))) := by
  obtain ⟨locs, X, eT, N, hx, hby, hml, hZ, hown, hnm, hret, hlk, hn⟩ := H
  subst hp
  exact oG.go (fun t hr => XT.land X.here hx rfl (hb hby hd) rfl hr) k
theorem o_lor (H : oH p l e R s m args below meth c bc ml y rt Z n0 T h cells slots) {x z : Int64}  (hd : decode bc pc = .ok (.lor, 1)) (hp : pc + 1 = pc') (k : oG p e below s n0 kc ks Q (T.setTop (mkF m pc' L (.long (x ||| z) :: S)))) : oG p e below s n0 kc ks Q (T.setTop (mkF m pc L (.long z :: .long x :: S))) := by
  obtain ⟨locs, X, eT, N, hx, hby, hml, hZ, hown, hnm, hret, hlk, hn⟩ := H
  subst hp
  exact oG.go (fun t hr => XT.lor X.here hx rfl (hb hby hd) rfl hr) k
theorem o_lxor (H : oH p l e R s m args below meth c bc ml y rt Z n0 T h cells slots) {x z : Int64}  (hd : decode bc pc = .ok (.lxor, 1)) (hp : pc + 1 = pc') (k : oG p e below s n0 kc ks Q (T.setTop (mkF m pc' L (.long (x ^^^ z) :: S)))) : oG p e below s n0 kc ks Q (T.setTop (mkF m pc L (.long z :: .long x :: S))) := by
  obtain ⟨locs, X, eT, N, hx, hby, hml, hZ, hown, hnm, hret, hlk, hn⟩ := H
  subst hp
  exact oG.go (fun t hr => XT.lxor X.here hx rfl (hb hby hd) rfl hr) k
theorem o_lcmp (H : oH p l e R s m args below meth c bc ml y rt Z n0 T h cells slots) {x z : Int64}  (hd : decode bc pc = .ok (.lcmp, 1)) (hp : pc + 1 = pc') (k : oG p e below s n0 kc ks Q (T.setTop (mkF m pc' L (.int (XT.cmpL x z) :: S)))) : oG p e below s n0 kc ks Q (T.setTop (mkF m pc L (.long z :: .long x :: S))) := by
  obtain ⟨locs, X, eT, N, hx, hby, hml, hZ, hown, hnm, hret, hlk, hn⟩ := H
  subst hp
  exact oG.go (fun t hr => XT.lcmp X.here hx rfl (hb hby hd) rfl hr) k
theorem o_lshl (H : oH p l e R s m args below meth c bc ml y rt Z n0 T h cells slots) {x : Int64} {z : Int32}  (hd : decode bc pc = .ok (.lshl, 1)) (hp : pc + 1 = pc') (k : oG p e below s n0 kc ks Q (T.setTop (mkF m pc' L (.long (x <<< (z.toInt64 &&& 63)) :: S)))) : oG p e below s n0 kc ks Q (T.setTop (mkF m pc L (.int z :: .long x :: S))) := by
  obtain ⟨locs, X, eT, N, hx, hby, hml, hZ, hown, hnm, hret, hlk, hn⟩ := H
  subst hp
  exact oG.go (fun t hr => XT.lshl X.here hx rfl (hb hby hd) rfl hr) k
theorem o_lshr (H : oH p l e R s m args below meth c bc ml y rt Z n0 T h cells slots) {x : Int64} {z : Int32}  (hd : decode bc pc = .ok (.lshr, 1)) (hp : pc + 1 = pc') (k : oG p e below s n0 kc ks Q (T.setTop (mkF m pc' L (.long (x >>> (z.toInt64 &&& 63)) :: S)))) : oG p e below s n0 kc ks Q (T.setTop (mkF m pc L (.int z :: .long x :: S))) := by
  obtain ⟨locs, X, eT, N, hx, hby, hml, hZ, hown, hnm, hret, hlk, hn⟩ := H
  subst hp
  exact oG.go (fun t hr => XT.lshr X.here hx rfl (hb hby hd) rfl hr) k
theorem o_lushr (H : oH p l e R s m args below meth c bc ml y rt Z n0 T h cells slots) {x : Int64} {z : Int32}  (hd : decode bc pc = .ok (.lushr, 1)) (hp : pc + 1 = pc') (k : oG p e below s n0 kc ks Q (T.setTop (mkF m pc' L (.long (XT.ushrL x z) :: S)))) : oG p e below s n0 kc ks Q (T.setTop (mkF m pc L (.int z :: .long x :: S))) := by
  obtain ⟨locs, X, eT, N, hx, hby, hml, hZ, hown, hnm, hret, hlk, hn⟩ := H
  subst hp
  exact oG.go (fun t hr => XT.lushr X.here hx rfl (hb hby hd) rfl hr) k
theorem o_idiv (H : oH p l e R s m args below meth c bc ml y rt Z n0 T h cells slots) {x z : Int32} (hz : z ≠ 0) (hd : decode bc pc = .ok (.idiv, 1)) (hp : pc + 1 = pc') (k : oG p e below s n0 kc ks Q (T.setTop (mkF m pc' L (.int (x / z) :: S)))) : oG p e below s n0 kc ks Q (T.setTop (mkF m pc L (.int z :: .int x :: S))) := by
  obtain ⟨locs, X, eT, N, hx, hby, hml, hZ, hown, hnm, hret, hlk, hn⟩ := H
  subst hp
  exact oG.go (fun t hr => XS.idiv X.here hx rfl (hb hby hd) rfl hz hr) k
theorem o_irem (H : oH p l e R s m args below meth c bc ml y rt Z n0 T h cells slots) {x z : Int32} (hz : z ≠ 0) (hd : decode bc pc = .ok (.irem, 1)) (hp : pc + 1 = pc') (k : oG p e below s n0 kc ks Q (T.setTop (mkF m pc' L (.int (x % z) :: S)))) : oG p e below s n0 kc ks Q (T.setTop (mkF m pc L (.int z :: .int x :: S))) := by
  obtain ⟨locs, X, eT, N, hx, hby, hml, hZ, hown, hnm, hret, hlk, hn⟩ := H
  subst hp
  exact oG.go (fun t hr => iremM X hx rfl (hb hby hd) rfl hz hr) k
theorem o_ineg (H : oH p l e R s m args below meth c bc ml y rt Z n0 T h cells slots) {x : Int32}  (hd : decode bc pc = .ok (.ineg, 1)) (hp : pc + 1 = pc') (k : oG p e below s n0 kc ks Q (T.setTop (mkF m pc' L (.int (-x) :: S)))) : oG p e below s n0 kc ks Q (T.setTop (mkF m pc L (.int x :: S))) := by
  obtain ⟨locs, X, eT, N, hx, hby, hml, hZ, hown, hnm, hret, hlk, hn⟩ := H
  subst hp
  exact oG.go (fun t hr => XS.ineg X.here hx rfl (hb hby hd) rfl hr) k
theorem o_lneg (H : oH p l e R s m args below meth c bc ml y rt Z n0 T h cells slots) {x : Int64}  (hd : decode bc pc = .ok (.lneg, 1)) (hp : pc + 1 = pc') (k : oG p e below s n0 kc ks Q (T.setTop (mkF m pc' L (.long (-x) :: S)))) : oG p e below s n0 kc ks Q (T.setTop (mkF m pc L (.long x :: S))) := by
  obtain ⟨locs, X, eT, N, hx, hby, hml, hZ, hown, hnm, hret, hlk, hn⟩ := H
  subst hp
  exact oG.go (fun t hr => XT.lneg X.here hx rfl (hb hby hd) rfl hr) k
theorem o_i2l (H : oH p l e R s m args below meth c bc ml y rt Z n0 T h cells slots) {x : Int32}  (hd : decode bc pc = .ok (.i2l, 1)) (hp : pc + 1 = pc') (k : oG p e below s n0 kc ks Q (T.setTop (mkF m pc' L (.long x.toInt64 :: S)))) : oG p e below s n0 kc ks Q (T.setTop (mkF m pc L (.int x :: S))) := by
  obtain ⟨locs, X, eT, N, hx, hby, hml, hZ, hown, hnm, hret, hlk, hn⟩ := H
  subst hp
  exact oG.go (fun t hr => XT.i2l X.here hx rfl (hb hby hd) rfl hr) k
theorem o_l2i (H : oH p l e R s m args below meth c bc ml y rt Z n0 T h cells slots) {x : Int64}  (hd : decode bc pc = .ok (.l2i, 1)) (hp : pc + 1 = pc') (k : oG p e below s n0 kc ks Q (T.setTop (mkF m pc' L (.int x.toInt32 :: S)))) : oG p e below s n0 kc ks Q (T.setTop (mkF m pc L (.long x :: S))) := by
  obtain ⟨locs, X, eT, N, hx, hby, hml, hZ, hown, hnm, hret, hlk, hn⟩ := H
  subst hp
  exact oG.go (fun t hr => XT.l2i X.here hx rfl (hb hby hd) rfl hr) k
theorem o_i2b (H : oH p l e R s m args below meth c bc ml y rt Z n0 T h cells slots) {x : Int32}  (hd : decode bc pc = .ok (.i2b, 1)) (hp : pc + 1 = pc') (k : oG p e below s n0 kc ks Q (T.setTop (mkF m pc' L (.int x.toInt8.toInt32 :: S)))) : oG p e below s n0 kc ks Q (T.setTop (mkF m pc L (.int x :: S))) := by
  obtain ⟨locs, X, eT, N, hx, hby, hml, hZ, hown, hnm, hret, hlk, hn⟩ := H
  subst hp
  exact oG.go (fun t hr => XT.i2b X.here hx rfl (hb hby hd) rfl hr) k
theorem o_i2c (H : oH p l e R s m args below meth c bc ml y rt Z n0 T h cells slots) {x : Int32}  (hd : decode bc pc = .ok (.i2c, 1)) (hp : pc + 1 = pc') (k : oG p e below s n0 kc ks Q (T.setTop (mkF m pc' L (.int x.toUInt32.toUInt16.toUInt32.toInt32 :: S)))) : oG p e below s n0 kc ks Q (T.setTop (mkF m pc L (.int x :: S))) := by
  obtain ⟨locs, X, eT, N, hx, hby, hml, hZ, hown, hnm, hret, hlk, hn⟩ := H
  subst hp
  exact oG.go (fun t hr => XT.i2c X.here hx rfl (hb hby hd) rfl hr) k
theorem o_i2s (H : oH p l e R s m args below meth c bc ml y rt Z n0 T h cells slots) {x : Int32}  (hd : decode bc pc = .ok (.i2s, 1)) (hp : pc + 1 = pc') (k : oG p e below s n0 kc ks Q (T.setTop (mkF m pc' L (.int x.toInt16.toInt32 :: S)))) : oG p e below s n0 kc ks Q (T.setTop (mkF m pc L (.int x :: S))) := by
  obtain ⟨locs, X, eT, N, hx, hby, hml, hZ, hown, hnm, hret, hlk, hn⟩ := H
  subst hp
  exact oG.go (fun t hr => XT.i2s X.here hx rfl (hb hby hd) rfl hr) k
theorem o_iinc (H : oH p l e R s m args below meth c bc ml y rt Z n0 T h cells slots) {j : Nat} {cst : Int} {x : Int32} (v u : Int32) (hv : Int32.ofInt cst = v) (hu : x + v = u) (hl : L[j]? = some (.val (.int x))) (hl' : storeLocals L j (.int u) = some L') (hd : decode bc pc = .ok (.iinc j cst, 3)) (hp : pc + 3 = pc') (k : oG p e below s n0 kc ks Q (T.setTop (mkF m pc' L' S))) : oG p e below s n0 kc ks Q (T.setTop (mkF m pc L S)) := by
  obtain ⟨locs, X, eT, N, hx, hby, hml, hZ, hown, hnm, hret, hlk, hn⟩ := H
  subst hp
  exact oG.go (fun t hr => XT.iincV X.here hx rfl v (hb hby hd) hv hl (hu ▸ hl') hr) k
theorem o_fold {x : Int32} (v : Int32) (hv : x = v) (k : oG p e below s n0 kc ks Q (T.setTop (mkF m pc L (.int v :: S)))) : oG p e below s n0 kc ks Q (T.setTop (mkF m pc L (.int x :: S))) := hv ▸ k
theorem o_foldJ {x : Int64} (v : Int64) (hv : x = v) (k : oG p e below s n0 kc ks Q (T.setTop (mkF m pc L (.long v :: S)))) : oG p e below s n0 kc ks Q (T.setTop (mkF m pc L (.long x :: S))) := hv ▸ k
theorem o_dup (H : oH p l e R s m args below meth c bc ml y rt Z n0 T h cells slots) {v : Value} (hc : v.category = 1) (hd : decode bc pc = .ok (.dup, 1)) (hp : pc + 1 = pc') (k : oG p e below s n0 kc ks Q (T.setTop (mkF m pc' L (v :: v :: S)))) : oG p e below s n0 kc ks Q (T.setTop (mkF m pc L (v :: S))) := by
  obtain ⟨locs, X, eT, N, hx, hby, hml, hZ, hown, hnm, hret, hlk, hn⟩ := H
  subst hp
  exact oG.go (fun t hr => XS.dup X.here hx rfl (hb hby hd) rfl hc hr) k
theorem o_dup_x1 (H : oH p l e R s m args below meth c bc ml y rt Z n0 T h cells slots) {v w : Value} (hc : v.category = 1) (hc' : w.category = 1) (hd : decode bc pc = .ok (.dup_x1, 1)) (hp : pc + 1 = pc') (k : oG p e below s n0 kc ks Q (T.setTop (mkF m pc' L (v :: w :: v :: S)))) : oG p e below s n0 kc ks Q (T.setTop (mkF m pc L (v :: w :: S))) := by
  obtain ⟨locs, X, eT, N, hx, hby, hml, hZ, hown, hnm, hret, hlk, hn⟩ := H
  subst hp
  exact oG.go (fun t hr => XT.dupX1 X.here hx rfl (hb hby hd) rfl hc hc' hr) k
theorem o_dup2 (H : oH p l e R s m args below meth c bc ml y rt Z n0 T h cells slots) {v w : Value} (hc : v.category = 1) (hc' : w.category = 1) (hd : decode bc pc = .ok (.dup2, 1)) (hp : pc + 1 = pc') (k : oG p e below s n0 kc ks Q (T.setTop (mkF m pc' L (v :: w :: v :: w :: S)))) : oG p e below s n0 kc ks Q (T.setTop (mkF m pc L (v :: w :: S))) := by
  obtain ⟨locs, X, eT, N, hx, hby, hml, hZ, hown, hnm, hret, hlk, hn⟩ := H
  subst hp
  exact oG.go (fun t hr => XT.dup2 X.here hx rfl (hb hby hd) rfl hc hc' hr) k
theorem o_dup2L (H : oH p l e R s m args below meth c bc ml y rt Z n0 T h cells slots) {v : Int64}  (hd : decode bc pc = .ok (.dup2, 1)) (hp : pc + 1 = pc') (k : oG p e below s n0 kc ks Q (T.setTop (mkF m pc' L (.long v :: .long v :: S)))) : oG p e below s n0 kc ks Q (T.setTop (mkF m pc L (.long v :: S))) := by
  obtain ⟨locs, X, eT, N, hx, hby, hml, hZ, hown, hnm, hret, hlk, hn⟩ := H
  subst hp
  exact oG.go (fun t hr => XT.dup2L X.here hx rfl (hb hby hd) rfl hr) k
theorem o_pop (H : oH p l e R s m args below meth c bc ml y rt Z n0 T h cells slots) {v : Value} (hc : v.category = 1) (hd : decode bc pc = .ok (.pop, 1)) (hp : pc + 1 = pc') (k : oG p e below s n0 kc ks Q (T.setTop (mkF m pc' L S))) : oG p e below s n0 kc ks Q (T.setTop (mkF m pc L (v :: S))) := by
  obtain ⟨locs, X, eT, N, hx, hby, hml, hZ, hown, hnm, hret, hlk, hn⟩ := H
  subst hp
  exact oG.go (fun t hr => XT.pop X.here hx rfl (hb hby hd) rfl hc hr) k
theorem o_one {i : Nat} {v : Value} {sl : Slot} (hs : L[i]? = some sl) (h1 : sl = .unset ∨ ∃ z, sl = .val (.int z)) (hv : v.category = 1) : storeLocals L i v = some (L.setIfInBounds i (.val v)) :=
  XS.store1 hs (h1.imp id fun ⟨z, q⟩ => ⟨.int z, q, rfl⟩) hv
theorem o_len {vs : List Int32} : (vs.map Value.int).length.toInt32 = Int32.ofNat vs.length := by rw [List.length_map]
theorem o_get {vs : List Int32} {i : Nat} (h : i < vs.length) : (vs.map Value.int)[i]? = some (.int (vs[i]'h)) := by simp [h]
theorem o_ofNat {n : Nat} (h : n < 2147483648) : (Int32.ofNat n).toInt = n := Int32.toInt_ofNat_of_lt (by omega)
theorem o_lenJ {vs : List Int64} : (vs.map Value.long).length.toInt32 = Int32.ofNat vs.length := by rw [List.length_map]
theorem o_getJ {vs : List Int64} {i : Nat} (h : i < vs.length) : (vs.map Value.long)[i]? = some (.long (vs[i]'h)) := by simp [h]
theorem o_succ {n : Nat} : Int32.ofNat n + 1 = Int32.ofNat (n + 1) := (Int32.ofNat_add n 1).symm
theorem o_bt {A : Prop} [Decidable A] {b : Int32} (e : b = if A then (1 : Int32) else 0) (q : ¬ b = 0) : A := by
  by_cases a : A
  · exact a
  · rw [if_neg a] at e; exact absurd e q
theorem o_bf {A : Prop} [Decidable A] {b : Int32} (e : b = if A then (1 : Int32) else 0) (q : b = 0) : ¬ A := by
  intro a
  exact absurd ((e.trans (if_pos a)).symm.trans q) (by decide)
theorem o_goto (H : oH p l e R s m args below meth c bc ml y rt Z n0 T h cells slots) {o : Int} (hd : decode bc pc = .ok (.goto o, 3)) (ho : 0 ≤ (pc : Int) + o) (hp : ((pc : Int) + o).toNat = pt) (k : oG p e below s n0 kc ks Q (T.setTop (mkF m pt L S))) : oG p e below s n0 kc ks Q (T.setTop (mkF m pc L S)) := by
  obtain ⟨locs, X, eT, N, hx, hby, hml, hZ, hown, hnm, hret, hlk, hn⟩ := H
  exact oG.go (fun t hr => XS.goto X.here hx rfl rfl (hb hby hd) ho hp hr) k
theorem o_icmp_eq (H : oH p l e R s m args below meth c bc ml y rt Z n0 T h cells slots) {o : Int} {x z : Int32} (hd : decode bc pc = .ok (.if_icmp .eq o, 3)) (ho : 0 ≤ (pc : Int) + o) (hp : ((pc : Int) + o).toNat = pt) (hp' : pc + 3 = pc') (kt : x = z → oG p e below s n0 kc ks Q (T.setTop (mkF m pt L S))) (kf : ¬ x = z → oG p e below s n0 kc ks Q (T.setTop (mkF m pc' L S))) : oG p e below s n0 kc ks Q (T.setTop (mkF m pc L (.int z :: .int x :: S))) := by
  by_cases q : x = z
  · have k := kt q
    obtain ⟨locs, X, eT, N, hx, hby, hml, hZ, hown, hnm, hret, hlk, hn⟩ := H
    exact oG.go (fun t hr => XS.icmpYes X.here hx rfl rfl (hb hby hd) rfl (XT.ii_eq_t q) ho hp hr) k
  · have k := kf q
    obtain ⟨locs, X, eT, N, hx, hby, hml, hZ, hown, hnm, hret, hlk, hn⟩ := H
    subst hp'
    exact oG.go (fun t hr => XS.icmpNo X.here hx rfl (hb hby hd) rfl (XT.ii_eq_f q) hr) k
theorem o_if_eq (H : oH p l e R s m args below meth c bc ml y rt Z n0 T h cells slots) {o : Int} {x : Int32} (hd : decode bc pc = .ok (.ifCond .eq o, 3)) (ho : 0 ≤ (pc : Int) + o) (hp : ((pc : Int) + o).toNat = pt) (hp' : pc + 3 = pc') (kt : x = 0 → oG p e below s n0 kc ks Q (T.setTop (mkF m pt L S))) (kf : ¬ x = 0 → oG p e below s n0 kc ks Q (T.setTop (mkF m pc' L S))) : oG p e below s n0 kc ks Q (T.setTop (mkF m pc L (.int x :: S))) := by
  by_cases q : x = 0
  · have k := kt q
    obtain ⟨locs, X, eT, N, hx, hby, hml, hZ, hown, hnm, hret, hlk, hn⟩ := H
    exact oG.go (fun t hr => XS.ifYes X.here hx rfl rfl (hb hby hd) rfl (XT.i0_eq_t q) ho hp hr) k
  · have k := kf q
    obtain ⟨locs, X, eT, N, hx, hby, hml, hZ, hown, hnm, hret, hlk, hn⟩ := H
    subst hp'
    exact oG.go (fun t hr => XS.ifNo X.here hx rfl (hb hby hd) rfl (XT.i0_eq_f q) hr) k
theorem o_ifl_eq (H : oH p l e R s m args below meth c bc ml y rt Z n0 T h cells slots) {o : Int} {x z : Int64} (hd : decode bc pc = .ok (.ifCond .eq o, 3)) (ho : 0 ≤ (pc : Int) + o) (hp : ((pc : Int) + o).toNat = pt) (hp' : pc + 3 = pc') (kt : x = z → oG p e below s n0 kc ks Q (T.setTop (mkF m pt L S))) (kf : ¬ x = z → oG p e below s n0 kc ks Q (T.setTop (mkF m pc' L S))) : oG p e below s n0 kc ks Q (T.setTop (mkF m pc L (.int (XT.cmpL x z) :: S))) := by
  by_cases q : x = z
  · have k := kt q
    obtain ⟨locs, X, eT, N, hx, hby, hml, hZ, hown, hnm, hret, hlk, hn⟩ := H
    exact oG.go (fun t hr => XS.ifYes X.here hx rfl rfl (hb hby hd) rfl (XT.ll_eq_t q) ho hp hr) k
  · have k := kf q
    obtain ⟨locs, X, eT, N, hx, hby, hml, hZ, hown, hnm, hret, hlk, hn⟩ := H
    subst hp'
    exact oG.go (fun t hr => XS.ifNo X.here hx rfl (hb hby hd) rfl (XT.ll_eq_f q) hr) k
theorem o_icmp_ne (H : oH p l e R s m args below meth c bc ml y rt Z n0 T h cells slots) {o : Int} {x z : Int32} (hd : decode bc pc = .ok (.if_icmp .ne o, 3)) (ho : 0 ≤ (pc : Int) + o) (hp : ((pc : Int) + o).toNat = pt) (hp' : pc + 3 = pc') (kt : ¬ x = z → oG p e below s n0 kc ks Q (T.setTop (mkF m pt L S))) (kf : x = z → oG p e below s n0 kc ks Q (T.setTop (mkF m pc' L S))) : oG p e below s n0 kc ks Q (T.setTop (mkF m pc L (.int z :: .int x :: S))) := by
  by_cases q : ¬ x = z
  · have k := kt q
    obtain ⟨locs, X, eT, N, hx, hby, hml, hZ, hown, hnm, hret, hlk, hn⟩ := H
    exact oG.go (fun t hr => XS.icmpYes X.here hx rfl rfl (hb hby hd) rfl (XT.ii_ne_t q) ho hp hr) k
  · have k := kf (Classical.not_not.mp q)
    obtain ⟨locs, X, eT, N, hx, hby, hml, hZ, hown, hnm, hret, hlk, hn⟩ := H
    subst hp'
    exact oG.go (fun t hr => XS.icmpNo X.here hx rfl (hb hby hd) rfl (XT.ii_ne_f (Classical.not_not.mp q)) hr) k
theorem o_if_ne (H : oH p l e R s m args below meth c bc ml y rt Z n0 T h cells slots) {o : Int} {x : Int32} (hd : decode bc pc = .ok (.ifCond .ne o, 3)) (ho : 0 ≤ (pc : Int) + o) (hp : ((pc : Int) + o).toNat = pt) (hp' : pc + 3 = pc') (kt : ¬ x = 0 → oG p e below s n0 kc ks Q (T.setTop (mkF m pt L S))) (kf : x = 0 → oG p e below s n0 kc ks Q (T.setTop (mkF m pc' L S))) : oG p e below s n0 kc ks Q (T.setTop (mkF m pc L (.int x :: S))) := by
  by_cases q : ¬ x = 0
  · have k := kt q
    obtain ⟨locs, X, eT, N, hx, hby, hml, hZ, hown, hnm, hret, hlk, hn⟩ := H
    exact oG.go (fun t hr => XS.ifYes X.here hx rfl rfl (hb hby hd) rfl (XT.i0_ne_t q) ho hp hr) k
  · have k := kf (Classical.not_not.mp q)
    obtain ⟨locs, X, eT, N, hx, hby, hml, hZ, hown, hnm, hret, hlk, hn⟩ := H
    subst hp'
    exact oG.go (fun t hr => XS.ifNo X.here hx rfl (hb hby hd) rfl (XT.i0_ne_f (Classical.not_not.mp q)) hr) k
theorem o_ifl_ne (H : oH p l e R s m args below meth c bc ml y rt Z n0 T h cells slots) {o : Int} {x z : Int64} (hd : decode bc pc = .ok (.ifCond .ne o, 3)) (ho : 0 ≤ (pc : Int) + o) (hp : ((pc : Int) + o).toNat = pt) (hp' : pc + 3 = pc') (kt : ¬ x = z → oG p e below s n0 kc ks Q (T.setTop (mkF m pt L S))) (kf : x = z → oG p e below s n0 kc ks Q (T.setTop (mkF m pc' L S))) : oG p e below s n0 kc ks Q (T.setTop (mkF m pc L (.int (XT.cmpL x z) :: S))) := by
  by_cases q : ¬ x = z
  · have k := kt q
    obtain ⟨locs, X, eT, N, hx, hby, hml, hZ, hown, hnm, hret, hlk, hn⟩ := H
    exact oG.go (fun t hr => XS.ifYes X.here hx rfl rfl (hb hby hd) rfl (XT.ll_ne_t q) ho hp hr) k
  · have k := kf (Classical.not_not.mp q)
    obtain ⟨locs, X, eT, N, hx, hby, hml, hZ, hown, hnm, hret, hlk, hn⟩ := H
    subst hp'
    exact oG.go (fun t hr => XS.ifNo X.here hx rfl (hb hby hd) rfl (XT.ll_ne_f (Classical.not_not.mp q)) hr) k
theorem o_icmp_lt (H : oH p l e R s m args below meth c bc ml y rt Z n0 T h cells slots) {o : Int} {x z : Int32} (hd : decode bc pc = .ok (.if_icmp .lt o, 3)) (ho : 0 ≤ (pc : Int) + o) (hp : ((pc : Int) + o).toNat = pt) (hp' : pc + 3 = pc') (kt : x < z → oG p e below s n0 kc ks Q (T.setTop (mkF m pt L S))) (kf : ¬ x < z → oG p e below s n0 kc ks Q (T.setTop (mkF m pc' L S))) : oG p e below s n0 kc ks Q (T.setTop (mkF m pc L (.int z :: .int x :: S))) := by
  by_cases q : x < z
  · have k := kt q
    obtain ⟨locs, X, eT, N, hx, hby, hml, hZ, hown, hnm, hret, hlk, hn⟩ := H
    exact oG.go (fun t hr => XS.icmpYes X.here hx rfl rfl (hb hby hd) rfl (XT.ii_lt_t q) ho hp hr) k
  · have k := kf q
    obtain ⟨locs, X, eT, N, hx, hby, hml, hZ, hown, hnm, hret, hlk, hn⟩ := H
    subst hp'
    exact oG.go (fun t hr => XS.icmpNo X.here hx rfl (hb hby hd) rfl (XT.ii_lt_f q) hr) k
theorem o_if_lt (H : oH p l e R s m args below meth c bc ml y rt Z n0 T h cells slots) {o : Int} {x : Int32} (hd : decode bc pc = .ok (.ifCond .lt o, 3)) (ho : 0 ≤ (pc : Int) + o) (hp : ((pc : Int) + o).toNat = pt) (hp' : pc + 3 = pc') (kt : x < 0 → oG p e below s n0 kc ks Q (T.setTop (mkF m pt L S))) (kf : ¬ x < 0 → oG p e below s n0 kc ks Q (T.setTop (mkF m pc' L S))) : oG p e below s n0 kc ks Q (T.setTop (mkF m pc L (.int x :: S))) := by
  by_cases q : x < 0
  · have k := kt q
    obtain ⟨locs, X, eT, N, hx, hby, hml, hZ, hown, hnm, hret, hlk, hn⟩ := H
    exact oG.go (fun t hr => XS.ifYes X.here hx rfl rfl (hb hby hd) rfl (XT.i0_lt_t q) ho hp hr) k
  · have k := kf q
    obtain ⟨locs, X, eT, N, hx, hby, hml, hZ, hown, hnm, hret, hlk, hn⟩ := H
    subst hp'
    exact oG.go (fun t hr => XS.ifNo X.here hx rfl (hb hby hd) rfl (XT.i0_lt_f q) hr) k
theorem o_ifl_lt (H : oH p l e R s m args below meth c bc ml y rt Z n0 T h cells slots) {o : Int} {x z : Int64} (hd : decode bc pc = .ok (.ifCond .lt o, 3)) (ho : 0 ≤ (pc : Int) + o) (hp : ((pc : Int) + o).toNat = pt) (hp' : pc + 3 = pc') (kt : x < z → oG p e below s n0 kc ks Q (T.setTop (mkF m pt L S))) (kf : ¬ x < z → oG p e below s n0 kc ks Q (T.setTop (mkF m pc' L S))) : oG p e below s n0 kc ks Q (T.setTop (mkF m pc L (.int (XT.cmpL x z) :: S))) := by
  by_cases q : x < z
  · have k := kt q
    obtain ⟨locs, X, eT, N, hx, hby, hml, hZ, hown, hnm, hret, hlk, hn⟩ := H
    exact oG.go (fun t hr => XS.ifYes X.here hx rfl rfl (hb hby hd) rfl (XT.ll_lt_t q) ho hp hr) k
  · have k := kf q
    obtain ⟨locs, X, eT, N, hx, hby, hml, hZ, hown, hnm, hret, hlk, hn⟩ := H
    subst hp'
    exact oG.go (fun t hr => XS.ifNo X.here hx rfl (hb hby hd) rfl (XT.ll_lt_f q) hr) k
theorem o_icmp_ge (H : oH p l e R s m args below meth c bc ml y rt Z n0 T h cells slots) {o : Int} {x z : Int32} (hd : decode bc pc = .ok (.if_icmp .ge o, 3)) (ho : 0 ≤ (pc : Int) + o) (hp : ((pc : Int) + o).toNat = pt) (hp' : pc + 3 = pc') (kt : ¬ x < z → oG p e below s n0 kc ks Q (T.setTop (mkF m pt L S))) (kf : x < z → oG p e below s n0 kc ks Q (T.setTop (mkF m pc' L S))) : oG p e below s n0 kc ks Q (T.setTop (mkF m pc L (.int z :: .int x :: S))) := by
  by_cases q : ¬ x < z
  · have k := kt q
    obtain ⟨locs, X, eT, N, hx, hby, hml, hZ, hown, hnm, hret, hlk, hn⟩ := H
    exact oG.go (fun t hr => XS.icmpYes X.here hx rfl rfl (hb hby hd) rfl (XT.ii_ge_t q) ho hp hr) k
  · have k := kf (Classical.not_not.mp q)
    obtain ⟨locs, X, eT, N, hx, hby, hml, hZ, hown, hnm, hret, hlk, hn⟩ := H
    subst hp'
    exact oG.go (fun t hr => XS.icmpNo X.here hx rfl (hb hby hd) rfl (XT.ii_ge_f (Classical.not_not.mp q)) hr) k
theorem o_if_ge (H : oH p l e R s m args below meth c bc ml y rt Z n0 T h cells slots) {o : Int} {x : Int32} (hd : decode bc pc = .ok (.ifCond .ge o, 3)) (ho : 0 ≤ (pc : Int) + o) (hp : ((pc : Int) + o).toNat = pt) (hp' : pc + 3 = pc') (kt : ¬ x < 0 → oG p e below s n0 kc ks Q (T.setTop (mkF m pt L S))) (kf : x < 0 → oG p e below s n0 kc ks Q (T.setTop (mkF m pc' L S))) : oG p e below s n0 kc ks Q (T.setTop (mkF m pc L (.int x :: S))) := by
  by_cases q : ¬ x < 0
  · have k := kt q
    obtain ⟨locs, X, eT, N, hx, hby, hml, hZ, hown, hnm, hret, hlk, hn⟩ := H
    exact oG.go (fun t hr => XS.ifYes X.here hx rfl rfl (hb hby hd) rfl (XT.i0_ge_t q) ho hp hr) k
  · have k := kf (Classical.not_not.mp q)
    obtain ⟨locs, X, eT, N, hx, hby, hml, hZ, hown, hnm, hret, hlk, hn⟩ := H
    subst hp'
    exact oG.go (fun t hr => XS.ifNo X.here hx rfl (hb hby hd) rfl (XT.i0_ge_f (Classical.not_not.mp q)) hr) k
theorem o_ifl_ge (H : oH p l e R s m args below meth c bc ml y rt Z n0 T h cells slots) {o : Int} {x z : Int64} (hd : decode bc pc = .ok (.ifCond .ge o, 3)) (ho : 0 ≤ (pc : Int) + o) (hp : ((pc : Int) + o).toNat = pt) (hp' : pc + 3 = pc') (kt : ¬ x < z → oG p e below s n0 kc ks Q (T.setTop (mkF m pt L S))) (kf : x < z → oG p e below s n0 kc ks Q (T.setTop (mkF m pc' L S))) : oG p e below s n0 kc ks Q (T.setTop (mkF m pc L (.int (XT.cmpL x z) :: S))) := by
  by_cases q : ¬ x < z
  · have k := kt q
    obtain ⟨locs, X, eT, N, hx, hby, hml, hZ, hown, hnm, hret, hlk, hn⟩ := H
    exact oG.go (fun t hr => XS.ifYes X.here hx rfl rfl (hb hby hd) rfl (XT.ll_ge_t q) ho hp hr) k
  · have k := kf (Classical.not_not.mp q)
    obtain ⟨locs, X, eT, N, hx, hby, hml, hZ, hown, hnm, hret, hlk, hn⟩ := H
    subst hp'
    exact oG.go (fun t hr => XS.ifNo X.here hx rfl (hb hby hd) rfl (XT.ll_ge_f (Classical.not_not.mp q)) hr) k
theorem o_icmp_gt (H : oH p l e R s m args below meth c bc ml y rt Z n0 T h cells slots) {o : Int} {x z : Int32} (hd : decode bc pc = .ok (.if_icmp .gt o, 3)) (ho : 0 ≤ (pc : Int) + o) (hp : ((pc : Int) + o).toNat = pt) (hp' : pc + 3 = pc') (kt : z < x → oG p e below s n0 kc ks Q (T.setTop (mkF m pt L S))) (kf : ¬ z < x → oG p e below s n0 kc ks Q (T.setTop (mkF m pc' L S))) : oG p e below s n0 kc ks Q (T.setTop (mkF m pc L (.int z :: .int x :: S))) := by
  by_cases q : z < x
  · have k := kt q
    obtain ⟨locs, X, eT, N, hx, hby, hml, hZ, hown, hnm, hret, hlk, hn⟩ := H
    exact oG.go (fun t hr => XS.icmpYes X.here hx rfl rfl (hb hby hd) rfl (XT.ii_gt_t q) ho hp hr) k
  · have k := kf q
    obtain ⟨locs, X, eT, N, hx, hby, hml, hZ, hown, hnm, hret, hlk, hn⟩ := H
    subst hp'
    exact oG.go (fun t hr => XS.icmpNo X.here hx rfl (hb hby hd) rfl (XT.ii_gt_f q) hr) k
theorem o_if_gt (H : oH p l e R s m args below meth c bc ml y rt Z n0 T h cells slots) {o : Int} {x : Int32} (hd : decode bc pc = .ok (.ifCond .gt o, 3)) (ho : 0 ≤ (pc : Int) + o) (hp : ((pc : Int) + o).toNat = pt) (hp' : pc + 3 = pc') (kt : 0 < x → oG p e below s n0 kc ks Q (T.setTop (mkF m pt L S))) (kf : ¬ 0 < x → oG p e below s n0 kc ks Q (T.setTop (mkF m pc' L S))) : oG p e below s n0 kc ks Q (T.setTop (mkF m pc L (.int x :: S))) := by
  by_cases q : 0 < x
  · have k := kt q
    obtain ⟨locs, X, eT, N, hx, hby, hml, hZ, hown, hnm, hret, hlk, hn⟩ := H
    exact oG.go (fun t hr => XS.ifYes X.here hx rfl rfl (hb hby hd) rfl (XT.i0_gt_t q) ho hp hr) k
  · have k := kf q
    obtain ⟨locs, X, eT, N, hx, hby, hml, hZ, hown, hnm, hret, hlk, hn⟩ := H
    subst hp'
    exact oG.go (fun t hr => XS.ifNo X.here hx rfl (hb hby hd) rfl (XT.i0_gt_f q) hr) k
theorem o_ifl_gt (H : oH p l e R s m args below meth c bc ml y rt Z n0 T h cells slots) {o : Int} {x z : Int64} (hd : decode bc pc = .ok (.ifCond .gt o, 3)) (ho : 0 ≤ (pc : Int) + o) (hp : ((pc : Int) + o).toNat = pt) (hp' : pc + 3 = pc') (kt : z < x → oG p e below s n0 kc ks Q (T.setTop (mkF m pt L S))) (kf : ¬ z < x → oG p e below s n0 kc ks Q (T.setTop (mkF m pc' L S))) : oG p e below s n0 kc ks Q (T.setTop (mkF m pc L (.int (XT.cmpL x z) :: S))) := by
  by_cases q : z < x
  · have k := kt q
    obtain ⟨locs, X, eT, N, hx, hby, hml, hZ, hown, hnm, hret, hlk, hn⟩ := H
    exact oG.go (fun t hr => XS.ifYes X.here hx rfl rfl (hb hby hd) rfl (XT.ll_gt_t q) ho hp hr) k
  · have k := kf q
    obtain ⟨locs, X, eT, N, hx, hby, hml, hZ, hown, hnm, hret, hlk, hn⟩ := H
    subst hp'
    exact oG.go (fun t hr => XS.ifNo X.here hx rfl (hb hby hd) rfl (XT.ll_gt_f q) hr) k
theorem o_icmp_le (H : oH p l e R s m args below meth c bc ml y rt Z n0 T h cells slots) {o : Int} {x z : Int32} (hd : decode bc pc = .ok (.if_icmp .le o, 3)) (ho : 0 ≤ (pc : Int) + o) (hp : ((pc : Int) + o).toNat = pt) (hp' : pc + 3 = pc') (kt : ¬ z < x → oG p e below s n0 kc ks Q (T.setTop (mkF m pt L S))) (kf : z < x → oG p e below s n0 kc ks Q (T.setTop (mkF m pc' L S))) : oG p e below s n0 kc ks Q (T.setTop (mkF m pc L (.int z :: .int x :: S))) := by
  by_cases q : ¬ z < x
  · have k := kt q
    obtain ⟨locs, X, eT, N, hx, hby, hml, hZ, hown, hnm, hret, hlk, hn⟩ := H
    exact oG.go (fun t hr => XS.icmpYes X.here hx rfl rfl (hb hby hd) rfl (XT.ii_le_t q) ho hp hr) k
  · have k := kf (Classical.not_not.mp q)
    obtain ⟨locs, X, eT, N, hx, hby, hml, hZ, hown, hnm, hret, hlk, hn⟩ := H
    subst hp'
    exact oG.go (fun t hr => XS.icmpNo X.here hx rfl (hb hby hd) rfl (XT.ii_le_f (Classical.not_not.mp q)) hr) k
theorem o_if_le (H : oH p l e R s m args below meth c bc ml y rt Z n0 T h cells slots) {o : Int} {x : Int32} (hd : decode bc pc = .ok (.ifCond .le o, 3)) (ho : 0 ≤ (pc : Int) + o) (hp : ((pc : Int) + o).toNat = pt) (hp' : pc + 3 = pc') (kt : ¬ 0 < x → oG p e below s n0 kc ks Q (T.setTop (mkF m pt L S))) (kf : 0 < x → oG p e below s n0 kc ks Q (T.setTop (mkF m pc' L S))) : oG p e below s n0 kc ks Q (T.setTop (mkF m pc L (.int x :: S))) := by
  by_cases q : ¬ 0 < x
  · have k := kt q
    obtain ⟨locs, X, eT, N, hx, hby, hml, hZ, hown, hnm, hret, hlk, hn⟩ := H
    exact oG.go (fun t hr => XS.ifYes X.here hx rfl rfl (hb hby hd) rfl (XT.i0_le_t q) ho hp hr) k
  · have k := kf (Classical.not_not.mp q)
    obtain ⟨locs, X, eT, N, hx, hby, hml, hZ, hown, hnm, hret, hlk, hn⟩ := H
    subst hp'
    exact oG.go (fun t hr => XS.ifNo X.here hx rfl (hb hby hd) rfl (XT.i0_le_f (Classical.not_not.mp q)) hr) k
theorem o_ifl_le (H : oH p l e R s m args below meth c bc ml y rt Z n0 T h cells slots) {o : Int} {x z : Int64} (hd : decode bc pc = .ok (.ifCond .le o, 3)) (ho : 0 ≤ (pc : Int) + o) (hp : ((pc : Int) + o).toNat = pt) (hp' : pc + 3 = pc') (kt : ¬ z < x → oG p e below s n0 kc ks Q (T.setTop (mkF m pt L S))) (kf : z < x → oG p e below s n0 kc ks Q (T.setTop (mkF m pc' L S))) : oG p e below s n0 kc ks Q (T.setTop (mkF m pc L (.int (XT.cmpL x z) :: S))) := by
  by_cases q : ¬ z < x
  · have k := kt q
    obtain ⟨locs, X, eT, N, hx, hby, hml, hZ, hown, hnm, hret, hlk, hn⟩ := H
    exact oG.go (fun t hr => XS.ifYes X.here hx rfl rfl (hb hby hd) rfl (XT.ll_le_t q) ho hp hr) k
  · have k := kf (Classical.not_not.mp q)
    obtain ⟨locs, X, eT, N, hx, hby, hml, hZ, hown, hnm, hret, hlk, hn⟩ := H
    subst hp'
    exact oG.go (fun t hr => XS.ifNo X.here hx rfl (hb hby hd) rfl (XT.ll_le_f (Classical.not_not.mp q)) hr) k
theorem o_icmp_t (H : oH p l e R s m args below meth c bc ml y rt Z n0 T h cells slots) {o : Int} {cd : ClassFile.Cond} {x z : Int32} (hd : decode bc pc = .ok (.if_icmp cd o, 3)) (hc : if_icmp.holds cd x z = true) (ho : 0 ≤ (pc : Int) + o) (hp : ((pc : Int) + o).toNat = pt) (k : oG p e below s n0 kc ks Q (T.setTop (mkF m pt L S))) : oG p e below s n0 kc ks Q (T.setTop (mkF m pc L (.int z :: .int x :: S))) := by
  obtain ⟨locs, X, eT, N, hx, hby, hml, hZ, hown, hnm, hret, hlk, hn⟩ := H
  exact oG.go (fun t hr => XS.icmpYes X.here hx rfl rfl (hb hby hd) rfl hc ho hp hr) k
theorem o_icmp_f (H : oH p l e R s m args below meth c bc ml y rt Z n0 T h cells slots) {o : Int} {cd : ClassFile.Cond} {x z : Int32} (hd : decode bc pc = .ok (.if_icmp cd o, 3)) (hc : if_icmp.holds cd x z = false) (hp : pc + 3 = pc') (k : oG p e below s n0 kc ks Q (T.setTop (mkF m pc' L S))) : oG p e below s n0 kc ks Q (T.setTop (mkF m pc L (.int z :: .int x :: S))) := by
  obtain ⟨locs, X, eT, N, hx, hby, hml, hZ, hown, hnm, hret, hlk, hn⟩ := H
  subst hp
  exact oG.go (fun t hr => XS.icmpNo X.here hx rfl (hb hby hd) rfl hc hr) k
theorem o_if_t (H : oH p l e R s m args below meth c bc ml y rt Z n0 T h cells slots) {o : Int} {cd : ClassFile.Cond} {x : Int32} (hd : decode bc pc = .ok (.ifCond cd o, 3)) (hc : ifCond.holds cd x = true) (ho : 0 ≤ (pc : Int) + o) (hp : ((pc : Int) + o).toNat = pt) (k : oG p e below s n0 kc ks Q (T.setTop (mkF m pt L S))) : oG p e below s n0 kc ks Q (T.setTop (mkF m pc L (.int x :: S))) := by
  obtain ⟨locs, X, eT, N, hx, hby, hml, hZ, hown, hnm, hret, hlk, hn⟩ := H
  exact oG.go (fun t hr => XS.ifYes X.here hx rfl rfl (hb hby hd) rfl hc ho hp hr) k
theorem o_if_f (H : oH p l e R s m args below meth c bc ml y rt Z n0 T h cells slots) {o : Int} {cd : ClassFile.Cond} {x : Int32} (hd : decode bc pc = .ok (.ifCond cd o, 3)) (hc : ifCond.holds cd x = false) (hp : pc + 3 = pc') (k : oG p e below s n0 kc ks Q (T.setTop (mkF m pc' L S))) : oG p e below s n0 kc ks Q (T.setTop (mkF m pc L (.int x :: S))) := by
  obtain ⟨locs, X, eT, N, hx, hby, hml, hZ, hown, hnm, hret, hlk, hn⟩ := H
  subst hp
  exact oG.go (fun t hr => XS.ifNo X.here hx rfl (hb hby hd) rfl hc hr) k
theorem o_ifnull_t (H : oH p l e R s m args below meth c bc ml y rt Z n0 T h cells slots) {o : Int} (hd : decode bc pc = .ok (.ifnull o, 3)) (ho : 0 ≤ (pc : Int) + o) (hp : ((pc : Int) + o).toNat = pt) (k : oG p e below s n0 kc ks Q (T.setTop (mkF m pt L S))) : oG p e below s n0 kc ks Q (T.setTop (mkF m pc L (.null :: S))) := by
  obtain ⟨locs, X, eT, N, hx, hby, hml, hZ, hown, hnm, hret, hlk, hn⟩ := H
  exact oG.go (fun t hr => XS.ifnullYes X.here hx rfl rfl (hb hby hd) rfl ho hp hr) k
theorem o_ifnull_f (H : oH p l e R s m args below meth c bc ml y rt Z n0 T h cells slots) {o : Int} {a : Addr} (hd : decode bc pc = .ok (.ifnull o, 3)) (hp : pc + 3 = pc') (k : oG p e below s n0 kc ks Q (T.setTop (mkF m pc' L S))) : oG p e below s n0 kc ks Q (T.setTop (mkF m pc L (.ref a :: S))) := by
  obtain ⟨locs, X, eT, N, hx, hby, hml, hZ, hown, hnm, hret, hlk, hn⟩ := H
  subst hp
  exact oG.go (fun t hr => XS.ifnullNo X.here hx rfl (hb hby hd) rfl hr) k
theorem o_ifnonnull_t (H : oH p l e R s m args below meth c bc ml y rt Z n0 T h cells slots) {o : Int} {a : Addr} (hd : decode bc pc = .ok (.ifnonnull o, 3)) (ho : 0 ≤ (pc : Int) + o) (hp : ((pc : Int) + o).toNat = pt) (k : oG p e below s n0 kc ks Q (T.setTop (mkF m pt L S))) : oG p e below s n0 kc ks Q (T.setTop (mkF m pc L (.ref a :: S))) := by
  obtain ⟨locs, X, eT, N, hx, hby, hml, hZ, hown, hnm, hret, hlk, hn⟩ := H
  exact oG.go (fun t hr => XT.ifnonnullYes X.here hx rfl rfl (hb hby hd) rfl ho hp hr) k
theorem o_ifnonnull_f (H : oH p l e R s m args below meth c bc ml y rt Z n0 T h cells slots) {o : Int} (hd : decode bc pc = .ok (.ifnonnull o, 3)) (hp : pc + 3 = pc') (k : oG p e below s n0 kc ks Q (T.setTop (mkF m pc' L S))) : oG p e below s n0 kc ks Q (T.setTop (mkF m pc L (.null :: S))) := by
  obtain ⟨locs, X, eT, N, hx, hby, hml, hZ, hown, hnm, hret, hlk, hn⟩ := H
  subst hp
  exact oG.go (fun t hr => XT.ifnonnullNo X.here hx rfl (hb hby hd) rfl hr) k
theorem o_acmp_t (H : oH p l e R s m args below meth c bc ml y rt Z n0 T h cells slots) {o : Int} {cd : ClassFile.ACond} {u w : Value} (hd : decode bc pc = .ok (.if_acmp cd o, 3)) (hu : u.isRef = true) (hw : w.isRef = true) (hc : XT.acmp cd u w = true) (ho : 0 ≤ (pc : Int) + o) (hp : ((pc : Int) + o).toNat = pt) (k : oG p e below s n0 kc ks Q (T.setTop (mkF m pt L S))) : oG p e below s n0 kc ks Q (T.setTop (mkF m pc L (w :: u :: S))) := by
  obtain ⟨locs, X, eT, N, hx, hby, hml, hZ, hown, hnm, hret, hlk, hn⟩ := H
  exact oG.go (fun t hr => XT.acmpYes X.here hx rfl rfl (hb hby hd) rfl hu hw hc ho hp hr) k
theorem o_acmp_f (H : oH p l e R s m args below meth c bc ml y rt Z n0 T h cells slots) {o : Int} {cd : ClassFile.ACond} {u w : Value} (hd : decode bc pc = .ok (.if_acmp cd o, 3)) (hu : u.isRef = true) (hw : w.isRef = true) (hc : XT.acmp cd u w = false) (hp : pc + 3 = pc') (k : oG p e below s n0 kc ks Q (T.setTop (mkF m pc' L S))) : oG p e below s n0 kc ks Q (T.setTop (mkF m pc L (w :: u :: S))) := by
  obtain ⟨locs, X, eT, N, hx, hby, hml, hZ, hown, hnm, hret, hlk, hn⟩ := H
  subst hp
  exact oG.go (fun t hr => XT.acmpNo X.here hx rfl (hb hby hd) rfl hu hw hc hr) k
theorem o_ldcI (H : oH p l e R s m args below meth c bc ml y rt Z n0 T h cells slots) {i : Nat} (v : Int32) (w : (Jvm.Cond.constant y.cls i v).before a0 Z = true) (hd : decode bc pc = .ok (.ldc i, 2)) (hp : pc + 2 = pc') (k : oG p e below s n0 kc ks Q (T.setTop (mkF m pc' L (.int v :: S)))) : oG p e below s n0 kc ks Q (T.setTop (mkF m pc L S)) := by
  obtain ⟨locs, X, eT, N, hx, hby, hml, hZ, hown, hnm, hret, hlk, hn⟩ := H
  subst hp
  exact oG.go (X.ldcInt hx hown (mvT hZ w) (g := mkF m pc L S) rfl (hb hby hd)) k
theorem o_ldcJ (H : oH p l e R s m args below meth c bc ml y rt Z n0 T h cells slots) {i : Nat} (v : Int64) (w : (Jvm.Cond.constantLong y.cls i v).before a0 Z = true) (hd : decode bc pc = .ok (.ldc2_w i, 3)) (hp : pc + 3 = pc') (k : oG p e below s n0 kc ks Q (T.setTop (mkF m pc' L (.long v :: S)))) : oG p e below s n0 kc ks Q (T.setTop (mkF m pc L S)) := by
  obtain ⟨locs, X, eT, N, hx, hby, hml, hZ, hown, hnm, hret, hlk, hn⟩ := H
  subst hp
  exact oG.go (X.ldc2Long hx hown (mvT hZ w) (g := mkF m pc L S) rfl (hb hby hd)) k
theorem o_ldcD (H : oH p l e R s m args below meth c bc ml y rt Z n0 T h cells slots) {i : Nat} (v : UInt64) (w : (Jvm.Cond.constantDouble y.cls i v).before a0 Z = true) (hd : decode bc pc = .ok (.ldc2_w i, 3)) (hp : pc + 3 = pc') (k : oG p e below s n0 kc ks Q (T.setTop (mkF m pc' L (.double v :: S)))) : oG p e below s n0 kc ks Q (T.setTop (mkF m pc L S)) := by
  obtain ⟨locs, X, eT, N, hx, hby, hml, hZ, hown, hnm, hret, hlk, hn⟩ := H
  subst hp
  exact oG.go (X.ldc2DoubleC hx hown (mvT hZ w) (g := mkF m pc L S) rfl (hb hby hd)) k
theorem o_ireturn (H : oH p l e R s m args below meth c bc ml y rt Z n0 T h cells slots) {z : Int32} (hrt : rt = some .int) (hd : decode bc pc = .ok (.ireturn, 1)) (hk : cells ≤ kc) (hs : slots ≤ ks) (q : Q (some (.int z)) h) : oG p e below s n0 kc ks Q (T.setTop (mkF m pc L (.int z :: S))) := by
  obtain ⟨locs, X, eT, N, hx, hby, hml, hZ, hown, hnm, hret, hlk, hn⟩ := H
  obtain ⟨fs, hr, hrun, hended, hW, hsame⟩ := X.leave (v := (some (.int z))) (fun hh => by first | rfl | (rw [hret, hrt] at hh; cases hh)) hlk
  refine ⟨_, _, retI X hx (hret.trans hrt) (hb hby hd) hr, hrun, hended, _, _, rfl, ⟨?_, N⟩, ⟨_, rfl⟩, hW, hsame.mono hk hs⟩
  show Q _ T.heap
  rw [eT]; exact q
theorem o_nreturn (H : oH p l e R s m args below meth c bc ml y rt Z n0 T h cells slots) {z : Int32} (t : FieldType) (hrt : rt = some t) (ht : t = .boolean ∨ t = .byte ∨ t = .char ∨ t = .short) (hd : decode bc pc = .ok (.ireturn, 1)) (hk : cells ≤ kc) (hs : slots ≤ ks) (q : Q (some (.int (nar t z))) h) : oG p e below s n0 kc ks Q (T.setTop (mkF m pc L (.int z :: S))) := by
  obtain ⟨locs, X, eT, N, hx, hby, hml, hZ, hown, hnm, hret, hlk, hn⟩ := H
  obtain ⟨fs, hr, hrun, hended, hW, hsame⟩ := X.leave (v := (some (.int (nar t z)))) (fun hh => by first | rfl | (rw [hret, hrt] at hh; cases hh)) hlk
  refine ⟨_, _, retN X hx (hret.trans hrt) ht (hb hby hd) hr, hrun, hended, _, _, rfl, ⟨?_, N⟩, ⟨_, rfl⟩, hW, hsame.mono hk hs⟩
  show Q _ T.heap
  rw [eT]; exact q
theorem o_lreturn (H : oH p l e R s m args below meth c bc ml y rt Z n0 T h cells slots) {z : Int64} (hrt : rt = some .long) (hd : decode bc pc = .ok (.lreturn, 1)) (hk : cells ≤ kc) (hs : slots ≤ ks) (q : Q (some (.long z)) h) : oG p e below s n0 kc ks Q (T.setTop (mkF m pc L (.long z :: S))) := by
  obtain ⟨locs, X, eT, N, hx, hby, hml, hZ, hown, hnm, hret, hlk, hn⟩ := H
  obtain ⟨fs, hr, hrun, hended, hW, hsame⟩ := X.leave (v := (some (.long z))) (fun hh => by first | rfl | (rw [hret, hrt] at hh; cases hh)) hlk
  refine ⟨_, _, retOut X hx (w := .long z) (i := .lreturn) (hret.trans hrt) rfl (Or.inr (Or.inl ⟨rfl, rfl, z, rfl⟩)) (hb hby hd) hr, hrun, hended, _, _, rfl, ⟨?_, N⟩, ⟨_, rfl⟩, hW, hsame.mono hk hs⟩
  show Q _ T.heap
  rw [eT]; exact q
theorem o_areturn (H : oH p l e R s m args below meth c bc ml y rt Z n0 T h cells slots) {v : Value} {t : FieldType} (hrt : rt = some t) (ht : t.isReference = true) (hv : v.isRef = true) (hna : narrow t v = v) (hd : decode bc pc = .ok (.areturn, 1)) (hk : cells ≤ kc) (hs : slots ≤ ks) (q : Q (some v) h) : oG p e below s n0 kc ks Q (T.setTop (mkF m pc L (v :: S))) := by
  obtain ⟨locs, X, eT, N, hx, hby, hml, hZ, hown, hnm, hret, hlk, hn⟩ := H
  obtain ⟨fs, hr, hrun, hended, hW, hsame⟩ := X.leave (v := (some v)) (fun hh => by first | rfl | (rw [hret, hrt] at hh; cases hh)) hlk
  refine ⟨_, _, retOut X hx (w := v) (i := .areturn) (hret.trans hrt) hna (Or.inr (Or.inr (Or.inr (Or.inr ⟨rfl, ht, hv⟩)))) (hb hby hd) hr, hrun, hended, _, _, rfl, ⟨?_, N⟩, ⟨_, rfl⟩, hW, hsame.mono hk hs⟩
  show Q _ T.heap
  rw [eT]; exact q
theorem o_return (H : oH p l e R s m args below meth c bc ml y rt Z n0 T h cells slots)  (hrt : rt = none) (hd : decode bc pc = .ok (.return_, 1)) (hk : cells ≤ kc) (hs : slots ≤ ks) (q : Q none h) : oG p e below s n0 kc ks Q (T.setTop (mkF m pc L [])) := by
  obtain ⟨locs, X, eT, N, hx, hby, hml, hZ, hown, hnm, hret, hlk, hn⟩ := H
  obtain ⟨fs, hr, hrun, hended, hW, hsame⟩ := X.leave (v := none) (fun hh => by first | rfl | (rw [hret, hrt] at hh; cases hh)) hlk
  refine ⟨_, _, X.returnOut hx (hret.trans hrt) (hb hby hd) hr, hrun, hended, _, _, rfl, ⟨?_, N⟩, ⟨_, rfl⟩, hW, hsame.mono hk hs⟩
  show Q _ T.heap
  rw [eT]; exact q
theorem o_new (H : oH p l e R s m args below meth c bc ml y rt Z n0 T h cells slots) {i nn : Nat} {C : String} (w : (Jvm.Cond.classLink y.cls i C).before a0 Z = true) (wi : (Jvm.Cond.instantiable C nn).before a0 Z = true) (wz : (Jvm.Cond.initialized C).before a0 Z = true) (hd : decode bc pc = .ok (.new i, 3)) (hp : pc + 3 = pc') (hc : cells + 1 ≤ R.cells) (hl : slots + nn ≤ R.slots)
    (k : ∀ (T' : State) (h' : Heap) (a : Addr), a = h.size → oH p l e R s m args below meth c bc ml y rt Z n0 T' h' (cells + 1) (slots + nn) → Ext h h' → Exa Z h' a C → (∀ {O nm d : String} {ty : FieldType}, Laid Z a0 C O nm d → parseFieldDescriptor d = some ty → Fld Z h' a O nm d (defaultValue ty)) → oG p e below s n0 kc ks Q (T'.setTop (mkF m pc' L (.ref a :: S)))) : oG p e below s n0 kc ks Q (T.setTop (mkF m pc L S)) := by
  obtain ⟨locs, X, eT, N, hx, hby, hml, hZ, hown, hnm, hret, hlk, hn⟩ := H
  subst hp
  obtain ⟨T', h', X', e', E, A, D, -, st⟩ := newO X hx hZ hown w wi wz eT (g := mkF m pc L S) rfl (hb hby hd) hc hl
  exact oG.go st (k T' h' _ rfl ⟨locs, X', e', N, hx, hby, hml, hZ, hown, hnm, hret, hlk, hn⟩ E A (fun La ht => D La ht))
theorem o_initO (H : oH p l e R s m args below meth c bc ml y rt Z n0 T h cells slots) {i : Nat} {a : Addr} (w1 : (Jvm.Cond.methodLink y.cls i Lib.objectInit).before a0 Z = true) (w2 : (Jvm.Cond.instanceMethod Lib.objectInit).before a0 Z = true) (w3 : (Jvm.Cond.code Lib.objectInit ⟨#[0xb1]⟩ 1 none).before a0 Z = true) (hd : decode bc pc = .ok (.invokespecial i, 3)) (hp : pc + 3 = pc') (hsz : L.size = ml) (hf : 1 ≤ R.frames) (hlo : (S.map fun v => v.category).sum + 12 ≤ R.locals)
    (k : ∀ (T' : State), oH p l e R s m args below meth c bc ml y rt Z n0 T' h cells slots → oG p e below s n0 kc ks Q (T'.setTop (mkF m pc' L S))) : oG p e below s n0 kc ks Q (T.setTop (mkF m pc L (.ref a :: S))) := by
  obtain ⟨locs, X, eT, N, hx, hby, hml, hZ, hown, hnm, hret, hlk, hn⟩ := H
  subst hp
  obtain ⟨T', X', e', st⟩ := initO X hx hZ hown w1 w2 w3 eT (g := mkF m pc L (.ref a :: S)) rfl (by rw [hml]; exact hsz) rfl (hb hby hd) hf (W := (S.map fun v => v.category).sum) (by show 2 * 0 + _ ≤ _; omega) hlo
  exact oG.go st (k T' ⟨locs, X', e', N, hx, hby, hml, hZ, hown, hnm, hret, hlk, hn⟩)
theorem o_getF (H : oH p l e R s m args below meth c bc ml y rt Z n0 T h cells slots) {i : Nat} {a : Addr} {C f d host : String} {v : Value} (w : (Jvm.Cond.fieldLink y.cls i C f d).before a0 Z = true ∨ (Jvm.Cond.fieldLinkNest y.cls i C f d host).before a0 Z = true) (F : Fld Z h a C f d v) (hd : decode bc pc = .ok (.getfield i, 3)) (hp : pc + 3 = pc')
    (k : ∀ (T' : State), oH p l e R s m args below meth c bc ml y rt Z n0 T' h cells slots → oG p e below s n0 kc ks Q (T'.setTop (mkF m pc' L (v :: S)))) : oG p e below s n0 kc ks Q (T.setTop (mkF m pc L (.ref a :: S))) := by
  obtain ⟨locs, X, eT, N, hx, hby, hml, hZ, hown, hnm, hret, hlk, hn⟩ := H
  subst hp
  obtain ⟨T', X', e', st⟩ := getF X hx hZ hown (host := host) w Via.refl eT F (g := mkF m pc L (.ref a :: S)) rfl rfl (hb hby hd)
  exact oG.go st (k T' ⟨locs, X', e', N, hx, hby, hml, hZ, hown, hnm, hret, hlk, hn⟩)
theorem o_putF (H : oH p l e R s m args below meth c bc ml y rt Z n0 T h cells slots) {i kk : Nat} {a : Addr} {C K f d host : String} {v old : Value} {ty : FieldType} (w : (Jvm.Cond.fieldLink y.cls i C f d).before a0 Z = true ∨ (Jvm.Cond.fieldLinkNest y.cls i C f d host).before a0 Z = true) (F : Fld Z h a C f d old) (E : Exa Z h a K) (wl : (Jvm.Cond.lays K C f d).before a0 Z = true ∨ ((Jvm.Cond.laysFinal K C f d).before a0 Z = true ∧ y.cls = C ∧ y.name = "<init>")) (wi : (Jvm.Cond.instantiable K kk).before a0 Z = true) (hty : parseFieldDescriptor d = some ty) (hna : narrow ty v = v) (hft : fits ty v = true) (ha : n0 ≤ a) (hd : decode bc pc = .ok (.putfield i, 3)) (hp : pc + 3 = pc')
    (k : ∀ (T' : State) (h' : Heap), oH p l e R s m args below meth c bc ml y rt Z n0 T' h' cells slots → Wr h h' a (Jvm.RoadKit.slotOf Z C f d) v → oG p e below s n0 kc ks Q (T'.setTop (mkF m pc' L S))) : oG p e below s n0 kc ks Q (T.setTop (mkF m pc L (v :: .ref a :: S))) := by
  obtain ⟨locs, X, eT, N, hx, hby, hml, hZ, hown, hnm, hret, hlk, hn⟩ := H
  subst hp
  obtain ⟨T', h', X', e', W, st⟩ := putF X hx hZ hown (host := host) w Via.refl eT F E (wl.imp id fun q => ⟨q.1, q.2.1, hnm.trans q.2.2⟩) wi hty hna hft (g := mkF m pc L (v :: .ref a :: S)) rfl rfl (hb hby hd)
  exact oG.go st (k T' h' ⟨_, X', e', Fr.snoc X' N ha, hx, hby, hml, hZ, hown, hnm, hret, hlk, hn⟩ W)
theorem o_putFN (H : oH p l e R s m args below meth c bc ml y rt Z n0 T h cells slots) {i kk : Nat} {a : Addr} {C K f d : String} {v v' old : Value} {ty : FieldType} (w : (Jvm.Cond.fieldLink y.cls i C f d).before a0 Z = true) (F : Fld Z h a C f d old) (E : Exa Z h a K) (wl : (Jvm.Cond.lays K C f d).before a0 Z = true ∨ ((Jvm.Cond.laysFinal K C f d).before a0 Z = true ∧ y.cls = C ∧ y.name = "<init>")) (wi : (Jvm.Cond.instantiable K kk).before a0 Z = true) (hty : parseFieldDescriptor d = some ty) (hna : narrow ty v = v') (hft : fits ty v' = true) (ha : n0 ≤ a) (hd : decode bc pc = .ok (.putfield i, 3)) (hp : pc + 3 = pc')
    (k : ∀ (T' : State) (h' : Heap), oH p l e R s m args below meth c bc ml y rt Z n0 T' h' cells slots → Wr h h' a (Jvm.RoadKit.slotOf Z C f d) v' → oG p e below s n0 kc ks Q (T'.setTop (mkF m pc' L S))) : oG p e below s n0 kc ks Q (T.setTop (mkF m pc L (v :: .ref a :: S))) := by
  obtain ⟨locs, X, eT, N, hx, hby, hml, hZ, hown, hnm, hret, hlk, hn⟩ := H
  subst hp
  obtain ⟨T', h', X', e', W, st⟩ := putFN X hx hZ hown w Via.refl eT F E (wl.imp id fun q => ⟨q.1, q.2.1, hnm.trans q.2.2⟩) wi hty hna hft (g := mkF m pc L (v :: .ref a :: S)) rfl rfl (hb hby hd)
  exact oG.go st (k T' h' ⟨_, X', e', Fr.snoc X' N ha, hx, hby, hml, hZ, hown, hnm, hret, hlk, hn⟩ W)
theorem o_getS (H : oH p l e R s m args below meth c bc ml y rt Z n0 T h cells slots) {i : Nat} {C f d host : String} {v : Value} (w : (Jvm.Cond.fieldLink y.cls i C f d).before a0 Z = true ∨ (Jvm.Cond.fieldLinkNest y.cls i C f d host).before a0 Z = true) (F : Sta Z h C f d v) (hd : decode bc pc = .ok (.getstatic i, 3)) (hp : pc + 3 = pc')
    (k : ∀ (T' : State), oH p l e R s m args below meth c bc ml y rt Z n0 T' h cells slots → oG p e below s n0 kc ks Q (T'.setTop (mkF m pc' L (v :: S)))) : oG p e below s n0 kc ks Q (T.setTop (mkF m pc L S)) := by
  obtain ⟨locs, X, eT, N, hx, hby, hml, hZ, hown, hnm, hret, hlk, hn⟩ := H
  subst hp
  obtain ⟨T', X', e', st⟩ := getS2 X hx hZ hown (host := host) w Via.refl eT F (g := mkF m pc L S) rfl (hb hby hd)
  exact oG.go st (k T' ⟨locs, X', e', N, hx, hby, hml, hZ, hown, hnm, hret, hlk, hn⟩)
theorem o_instY (H : oH p l e R s m args below meth c bc ml y rt Z n0 T h cells slots) {i : Nat} {a : Addr} {K : String} (w : (Jvm.Cond.classLink y.cls i K).before a0 Z = true) (I : Ins Z h a K true) (hd : decode bc pc = .ok (.instanceof i, 3)) (hp : pc + 3 = pc') (k : ∀ (T' : State), oH p l e R s m args below meth c bc ml y rt Z n0 T' h cells slots → oG p e below s n0 kc ks Q (T'.setTop (mkF m pc' L (.int 1 :: S)))) : oG p e below s n0 kc ks Q (T.setTop (mkF m pc L (.ref a :: S))) := by
  obtain ⟨locs, X, eT, N, hx, hby, hml, hZ, hown, hnm, hret, hlk, hn⟩ := H
  subst hp
  obtain ⟨T', X', e', st⟩ := instY X hx hZ hown w eT I (g := mkF m pc L (.ref a :: S)) rfl rfl (hb hby hd)
  exact oG.go st (k T' ⟨locs, X', e', N, hx, hby, hml, hZ, hown, hnm, hret, hlk, hn⟩)
theorem o_castY (H : oH p l e R s m args below meth c bc ml y rt Z n0 T h cells slots) {i : Nat} {a : Addr} {K : String} (w : (Jvm.Cond.classLink y.cls i K).before a0 Z = true) (I : Ins Z h a K true) (hd : decode bc pc = .ok (.checkcast i, 3)) (hp : pc + 3 = pc') (k : ∀ (T' : State), oH p l e R s m args below meth c bc ml y rt Z n0 T' h cells slots → oG p e below s n0 kc ks Q (T'.setTop (mkF m pc' L (.ref a :: S)))) : oG p e below s n0 kc ks Q (T.setTop (mkF m pc L (.ref a :: S))) := by
  obtain ⟨locs, X, eT, N, hx, hby, hml, hZ, hown, hnm, hret, hlk, hn⟩ := H
  subst hp
  obtain ⟨T', X', e', st⟩ := castY X hx hZ hown w eT I (g := mkF m pc L (.ref a :: S)) rfl rfl (hb hby hd)
  exact oG.go st (k T' ⟨locs, X', e', N, hx, hby, hml, hZ, hown, hnm, hret, hlk, hn⟩)
theorem o_instNo (H : oH p l e R s m args below meth c bc ml y rt Z n0 T h cells slots) {i : Nat} {a : Addr} {C K : String} (w : (Jvm.Cond.classLink y.cls i K).before a0 Z = true) (E : Exa Z h a C) (F : ∃ c t, Z.vm.findClass C = some c ∧ Z.vm.findClass K = some t ∧ Z.vm.assignable c t = false) (hd : decode bc pc = .ok (.instanceof i, 3)) (hp : pc + 3 = pc') (k : ∀ (T' : State), oH p l e R s m args below meth c bc ml y rt Z n0 T' h cells slots → oG p e below s n0 kc ks Q (T'.setTop (mkF m pc' L (.int 0 :: S)))) : oG p e below s n0 kc ks Q (T.setTop (mkF m pc L (.ref a :: S))) := by
  obtain ⟨locs, X, eT, N, hx, hby, hml, hZ, hown, hnm, hret, hlk, hn⟩ := H
  subst hp
  obtain ⟨T', X', e', st⟩ := instNo X hx hZ hown w eT E F (g := mkF m pc L (.ref a :: S)) rfl rfl (hb hby hd)
  exact oG.go st (k T' ⟨locs, X', e', N, hx, hby, hml, hZ, hown, hnm, hret, hlk, hn⟩)
theorem o_instNull (H : oH p l e R s m args below meth c bc ml y rt Z n0 T h cells slots) {i : Nat} (hd : decode bc pc = .ok (.instanceof i, 3)) (hp : pc + 3 = pc') (k : oG p e below s n0 kc ks Q (T.setTop (mkF m pc' L (.int 0 :: S)))) : oG p e below s n0 kc ks Q (T.setTop (mkF m pc L (.null :: S))) := by
  obtain ⟨locs, X, eT, N, hx, hby, hml, hZ, hown, hnm, hret, hlk, hn⟩ := H
  subst hp
  exact oG.go (X.instanceofNull hx (g := mkF m pc L (.null :: S)) rfl rfl (hb hby hd)) k
theorem o_aaloadC (H : oH p l e R s m args below meth c bc ml y rt Z n0 T h cells slots) {a : Addr} {j : Int32} {cl : Cell} {ty : FieldType} (v : Value) (A : Arr Z h a cl ty) (hty : ty.isReference = true) (hin : ¬ (j < 0 ∨ cl.slots.size ≤ j.toNatClampNeg)) (hv : cl.slots[j.toNatClampNeg]? = some v) (hd : decode bc pc = .ok (.aaload, 1)) (hp : pc + 1 = pc') (k : oG p e below s n0 kc ks Q (T.setTop (mkF m pc' L (v :: S)))) : oG p e below s n0 kc ks Q (T.setTop (mkF m pc L (.int j :: .ref a :: S))) := by
  obtain ⟨locs, X, eT, N, hx, hby, hml, hZ, hown, hnm, hret, hlk, hn⟩ := H
  subst hp
  exact oG.go (fun t hr => X.aaload hx (j := j) (v := v) (by rw [eT]; exact A.1) (State.isArrayOf_alike hZ.alike A.2.1) hty A.2.2 hin hv (g := mkF m pc L (.int j :: .ref a :: S)) rfl rfl (hb hby hd) t hr) k
theorem o_kext {h' : Heap} (K : Keep h h' []) : Ext h h' := ⟨K.1, fun a c q => K.2.1 a c q nin0⟩
theorem o_etrans {h' h'' : Heap} (E : Ext h h') (E' : Ext h' h'') : Ext h h'' := ⟨Nat.le_trans E.1 E'.1, fun a c q => E'.2 a c (E.2 a c q)⟩
/-- C's chain of superclasses, ended by O, meets no class that can be made of the name K -/
theorem o_noSub {C K : String} {n : Nat} (wk : (Jvm.Cond.instantiable K n).before a0 Z = true) (kd : ∃ c k, Z.vm.findClass C = some c ∧ Z.vm.classes[c]? = some k ∧ k.kind = .ordinary) (hn : C ≠ K) (nf : ∀ c t, Z.vm.findClass C = some c → Z.vm.findClass K = some t → ∀ fuel, Z.vm.isSubclassAux fuel c t = false) : ∃ c t, Z.vm.findClass C = some c ∧ Z.vm.findClass K = some t ∧ Z.vm.assignable c t = false := by
  obtain ⟨c, k, h1, h2, h3⟩ := kd
  obtain ⟨t, kt, g1, g2, g3, g4, -⟩ := Cond.instantiable_spec wk
  have ne := ids_ne h1 g1 hn
  have g5 : kt.isInterface = false := (Bool.or_eq_false_iff.mp g4).1
  refine ⟨c, t, h1, g1, ?_⟩
  show Z.vm.assignableAux (255 + 1) c t = false
  simp [Vm.assignableAux, ne, h2, g2, h3, g3, g5, Vm.isSubclass, nf c t h1 g1]
theorem o_subRoot {O K : String} {n : Nat} (w : (Jvm.Cond.noSuperclass O).before a0 Z = true) (wk : (Jvm.Cond.instantiable K n).before a0 Z = true) (hn : O ≠ K) : NS Z O K := by
  obtain ⟨c, k, h1, h2, h3, -, -⟩ := Cond.noSuperclass_spec w
  obtain ⟨t, kt, g1, g2, g3, g4, -⟩ := Cond.instantiable_spec wk
  have ne := ids_ne h1 g1 hn
  refine ⟨c, t, h1, g1, fun fuel => ?_⟩
  cases fuel with
  | zero => rfl
  | succ f => simp [Vm.isSubclassAux, ne, h2, h3]
theorem o_ns {C S' K : String} {n : Nat} (w : (Jvm.Cond.superclass C S').before a0 Z = true) (wk : (Jvm.Cond.instantiable K n).before a0 Z = true) (N : NS Z C K) (hn : C ≠ K) : ∃ c t, Z.vm.findClass C = some c ∧ Z.vm.findClass K = some t ∧ Z.vm.assignable c t = false := by
  obtain ⟨c, h0⟩ := found_sup w
  obtain ⟨p, k, kp, h1, h2, h3, h4, h5, -, h7⟩ := Cond.superclass_spec h0 w
  refine o_noSub wk ⟨c, k, h0, h2, h5⟩ hn fun c' t' q1 q2 => ?_
  obtain ⟨c1, t1, r1, r2, r3⟩ := N
  cases r1.symm.trans q1
  cases r2.symm.trans q2
  exact r3
/-- an array, by the list of what it holds -/
def oA (ty : FieldType) (Z : State) (h : Heap) (a : Addr) (vs : List Value) : Prop := vs.length < 2 ^ 31 ∧ ∃ cl : Cell, Arr Z h a cl ty ∧ cl.slots = vs.toArray
theorem oA.ext {ty : FieldType} {h' : Heap} {a : Addr} {vs : List Value} (A : oA ty Z h a vs) (E : Ext h h') : oA ty Z h' a vs := by
  obtain ⟨q, cl, A, r⟩ := A; exact ⟨q, cl, A.ext E, r⟩
theorem oA.other {ty : FieldType} {h' : Heap} {a b : Addr} {sl : Nat} {v : Value} {vs : List Value} (A : oA ty Z h b vs) (W : Wr h h' a sl v) (ne : b ≠ a) : oA ty Z h' b vs := by
  obtain ⟨q, cl, A, r⟩ := A; exact ⟨q, cl, A.other W ne, r⟩
theorem oA.keep {ty : FieldType} {h' : Heap} {a : Addr} {ws : List Addr} {vs : List Value} (A : oA ty Z h a vs) (K : Keep h h' ws) (ne : a ∉ ws) : oA ty Z h' a vs := by
  obtain ⟨q, cl, A, r⟩ := A; exact ⟨q, cl, ⟨K.2.1 a cl A.1 ne, A.2⟩, r⟩
theorem oA.lt {ty : FieldType} {a : Addr} {vs : List Value} (A : oA ty Z h a vs) : a < h.size := by
  obtain ⟨q, cl, A, r⟩ := A; exact A.lt
theorem oA.same {ty : FieldType} {h' : Heap} {a : Addr} {j : Nat} {v : Value} {vs : List Value} (A : oA ty Z h a vs) (W : Wr h h' a j v) : oA ty Z h' a (vs.set j v) := by
  obtain ⟨q, cl, A, r⟩ := A
  refine ⟨by rw [List.length_set]; exact q, _, A.same W, ?_⟩
  show cl.slots.setIfInBounds j v = _
  rw [r, List.setIfInBounds_toArray]
theorem o_inb {cl : Cell} {vs : List Value} {j : Int32} {i : Nat} (r : cl.slots = vs.toArray) (h0 : j.toInt = (i : Int)) (h1 : i < vs.length) : ¬ (j < 0 ∨ cl.slots.size ≤ j.toNatClampNeg) := by
  have e0 : (0 : Int32).toInt = 0 := rfl
  have e1 : cl.slots.size = vs.length := by rw [r]; simp
  rw [Int32.lt_iff_toInt_lt, e0, e1]
  simp only [Int32.toNatClampNeg]; omega
theorem o_nat {j : Int32} {i : Nat} (h0 : j.toInt = (i : Int)) : j.toNatClampNeg = i := by
  simp only [Int32.toNatClampNeg]; omega
theorem o_elt {cl : Cell} {vs : List Value} {j : Int32} {i : Nat} {v : Value} (r : cl.slots = vs.toArray) (h0 : j.toInt = (i : Int)) (hv : vs[i]? = some v) : cl.slots[j.toNatClampNeg]? = some v := by
  rw [r, o_nat h0]; simpa using hv
theorem o_lt_of {vs : List Value} {i : Nat} {v : Value} (hv : vs[i]? = some v) : i < vs.length := (List.getElem?_eq_some_iff.mp hv).1
theorem o_newarr (H : oH p l e R s m args below meth c bc ml y rt Z n0 T h cells slots) {aty : ArrayType} {z : Int32} (cap n : Nat) (w : (Jvm.Cond.arrayClass (newarray.typeOf aty)).before a0 Z = true) (hz : z.toInt = (n : Int)) (hcap : n ≤ cap) (hb8 : cap * 8 ≤ 536870912) (hd : decode bc pc = .ok (.newarray aty, 2)) (hp : pc + 2 = pc') (hc : cells + 1 ≤ R.cells) (hl : slots + cap ≤ R.slots)
    (k : ∀ (T' : State) (h' : Heap) (a : Addr), a = h.size → oH p l e R s m args below meth c bc ml y rt Z n0 T' h' (cells + 1) (slots + cap) → Ext h h' → oA (newarray.typeOf aty) Z h' a (List.replicate n (defaultValue (newarray.typeOf aty))) → oG p e below s n0 kc ks Q (T'.setTop (mkF m pc' L (.ref a :: S)))) : oG p e below s n0 kc ks Q (T.setTop (mkF m pc L (.int z :: S))) := by
  obtain ⟨locs, X, eT, N, hx, hby, hml, hZ, hown, hnm, hret, hlk, hn⟩ := H
  subst hp
  have e0 : (0 : Int32).toInt = 0 := rfl
  obtain ⟨T', h', kk, X', e', E, A, st⟩ := newP X hx hZ w eT (g := mkF m pc L (.int z :: S)) rfl (hb hby hd) rfl (by rw [Int32.lt_iff_toInt_lt, e0]; omega) (cap := cap) (by simp only [Int32.toNatClampNeg]; omega) hb8 hc hl
  refine oG.go st (k T' h' _ rfl ⟨locs, X', e', N, hx, hby, hml, hZ, hown, hnm, hret, hlk, hn⟩ E ⟨?_, _, A, ?_⟩)
  · have := Int32.toInt_lt z
    rw [List.length_replicate]; omega
  · show Array.replicate z.toNatClampNeg _ = _
    rw [o_nat hz, ← List.toArray_replicate]
theorem o_newarrE (H : oH p l e R s m args below meth c bc ml y rt Z n0 T h cells slots) {aty : ArrayType} {z : Int32} (cap n : Nat) (w : (Jvm.Cond.arrayClass (newarray.typeOf aty)).before a0 Z = true) (hz : z.toInt = (n : Int)) (hcap : n ≤ cap) (hb8 : cap * 8 ≤ 536870912) (hd : decode bc pc = .ok (.newarray aty, 2)) (hp : pc + 2 = pc') (hc : cells + 1 ≤ R.cells) (hl : slots + cap ≤ R.slots) {ad : String} (had : "[" ++ (newarray.typeOf aty).toString = ad)
    (k : ∀ (T' : State) (h' : Heap) (a : Addr), a = h.size → oH p l e R s m args below meth c bc ml y rt Z n0 T' h' (cells + 1) (slots + cap) → Ext h h' → oA (newarray.typeOf aty) Z h' a (List.replicate n (defaultValue (newarray.typeOf aty))) → Exa Z h' a ad → oG p e below s n0 kc ks Q (T'.setTop (mkF m pc' L (.ref a :: S)))) : oG p e below s n0 kc ks Q (T.setTop (mkF m pc L (.int z :: S))) := by
  obtain ⟨locs, X, eT, N, hx, hby, hml, hZ, hown, hnm, hret, hlk, hn⟩ := H
  subst hp
  have e0 : (0 : Int32).toInt = 0 := rfl
  obtain ⟨T', h', kk, X', e', E, A, EE, st⟩ := newPE X hx hZ w eT (g := mkF m pc L (.int z :: S)) rfl (hb hby hd) rfl (by rw [Int32.lt_iff_toInt_lt, e0]; omega) (cap := cap) (by simp only [Int32.toNatClampNeg]; omega) hb8 hc hl had
  refine oG.go st (k T' h' _ rfl ⟨locs, X', e', N, hx, hby, hml, hZ, hown, hnm, hret, hlk, hn⟩ E ⟨?_, _, A, ?_⟩ EE)
  · have := Int32.toInt_lt z
    rw [List.length_replicate]; omega
  · show Array.replicate z.toNatClampNeg _ = _
    rw [o_nat hz, ← List.toArray_replicate]
theorem o_iaload (H : oH p l e R s m args below meth c bc ml y rt Z n0 T h cells slots) {a : Addr} {j : Int32} {vs : List Value} (i : Nat) (v : Value) (A : oA .int Z h a vs) (h0 : j.toInt = (i : Int)) (hv : vs[i]? = some v) (hd : decode bc pc = .ok (.iaload, 1)) (hp : pc + 1 = pc') (k : oG p e below s n0 kc ks Q (T.setTop (mkF m pc' L (v :: S)))) : oG p e below s n0 kc ks Q (T.setTop (mkF m pc L (.int j :: .ref a :: S))) := by
  obtain ⟨locs, X, eT, N, hx, hby, hml, hZ, hown, hnm, hret, hlk, hn⟩ := H
  subst hp
  obtain ⟨-, cl, A, r⟩ := A
  exact oG.go (fun t hr => X.iaload hx (j := j) (v := v) (by rw [eT]; exact A.1) (State.isArrayOf_alike hZ.alike A.2.1) A.2.2 (o_inb r h0 (o_lt_of hv)) (o_elt r h0 hv) (g := mkF m pc L (.int j :: .ref a :: S)) rfl rfl (hb hby hd) t hr) k
theorem o_caload (H : oH p l e R s m args below meth c bc ml y rt Z n0 T h cells slots) {a : Addr} {j : Int32} {vs : List Value} (i : Nat) (v : Value) (A : oA .char Z h a vs) (h0 : j.toInt = (i : Int)) (hv : vs[i]? = some v) (hd : decode bc pc = .ok (.caload, 1)) (hp : pc + 1 = pc') (k : oG p e below s n0 kc ks Q (T.setTop (mkF m pc' L (v :: S)))) : oG p e below s n0 kc ks Q (T.setTop (mkF m pc L (.int j :: .ref a :: S))) := by
  obtain ⟨locs, X, eT, N, hx, hby, hml, hZ, hown, hnm, hret, hlk, hn⟩ := H
  subst hp
  obtain ⟨-, cl, A, r⟩ := A
  exact oG.go (fun t hr => X.caload hx (j := j) (v := v) (by rw [eT]; exact A.1) (State.isArrayOf_alike hZ.alike A.2.1) A.2.2 (o_inb r h0 (o_lt_of hv)) (o_elt r h0 hv) (g := mkF m pc L (.int j :: .ref a :: S)) rfl rfl (hb hby hd) t hr) k
theorem o_baload (H : oH p l e R s m args below meth c bc ml y rt Z n0 T h cells slots) {a : Addr} {j : Int32} {vs : List Value} (i : Nat) (v : Value) (A : oA .byte Z h a vs) (h0 : j.toInt = (i : Int)) (hv : vs[i]? = some v) (hd : decode bc pc = .ok (.baload, 1)) (hp : pc + 1 = pc') (k : oG p e below s n0 kc ks Q (T.setTop (mkF m pc' L (v :: S)))) : oG p e below s n0 kc ks Q (T.setTop (mkF m pc L (.int j :: .ref a :: S))) := by
  obtain ⟨locs, X, eT, N, hx, hby, hml, hZ, hown, hnm, hret, hlk, hn⟩ := H
  subst hp
  obtain ⟨-, cl, A, r⟩ := A
  exact oG.go (fun t hr => X.baloadBytes hx (j := j) (v := v) (by rw [eT]; exact A.1) (State.isArrayOf_alike hZ.alike A.2.1) A.2.2 (o_inb r h0 (o_lt_of hv)) (o_elt r h0 hv) (g := mkF m pc L (.int j :: .ref a :: S)) rfl rfl (hb hby hd) t hr) k
theorem o_laload (H : oH p l e R s m args below meth c bc ml y rt Z n0 T h cells slots) {a : Addr} {j : Int32} {vs : List Value} (i : Nat) (v : Value) (A : oA .long Z h a vs) (h0 : j.toInt = (i : Int)) (hv : vs[i]? = some v) (hd : decode bc pc = .ok (.laload, 1)) (hp : pc + 1 = pc') (k : oG p e below s n0 kc ks Q (T.setTop (mkF m pc' L (v :: S)))) : oG p e below s n0 kc ks Q (T.setTop (mkF m pc L (.int j :: .ref a :: S))) := by
  obtain ⟨locs, X, eT, N, hx, hby, hml, hZ, hown, hnm, hret, hlk, hn⟩ := H
  subst hp
  obtain ⟨-, cl, A, r⟩ := A
  exact oG.go (fun t hr => X.laload hx (j := j) (v := v) (by rw [eT]; exact A.1) (State.isArrayOf_alike hZ.alike A.2.1) A.2.2 (o_inb r h0 (o_lt_of hv)) (o_elt r h0 hv) (g := mkF m pc L (.int j :: .ref a :: S)) rfl rfl (hb hby hd) t hr) k
theorem o_arraylength (H : oH p l e R s m args below meth c bc ml y rt Z n0 T h cells slots) {a : Addr} {ty : FieldType} {vs : List Value} (z : Int32) (A : oA ty Z h a vs) (hz : vs.length.toInt32 = z) (hd : decode bc pc = .ok (.arraylength, 1)) (hp : pc + 1 = pc') (k : oG p e below s n0 kc ks Q (T.setTop (mkF m pc' L (.int z :: S)))) : oG p e below s n0 kc ks Q (T.setTop (mkF m pc L (.ref a :: S))) := by
  obtain ⟨locs, X, eT, N, hx, hby, hml, hZ, hown, hnm, hret, hlk, hn⟩ := H
  subst hp
  obtain ⟨-, cl, A, r⟩ := A
  have e1 : cl.slots.size.toInt32 = z := by rw [← hz, r]; simp
  exact oG.go (fun t hr => X.arraylength hx (by rw [eT]; exact A.1) (State.isArrayOf_alike hZ.alike A.2.1) (g := mkF m pc L (.ref a :: S)) rfl rfl (hb hby hd) t (by rw [e1]; exact hr)) k
theorem o_iastore (H : oH p l e R s m args below meth c bc ml y rt Z n0 T h cells slots) {a : Addr} {j : Int32} {z : Int32} {vs : List Value} (i : Nat) (A : oA .int Z h a vs) (h0 : j.toInt = (i : Int)) (h1 : i < vs.length) (ha : n0 ≤ a) (hd : decode bc pc = .ok (.iastore, 1)) (hp : pc + 1 = pc')
    (k : ∀ (T' : State) (h' : Heap), oH p l e R s m args below meth c bc ml y rt Z n0 T' h' cells slots → Wr h h' a i (.int z) → oA .int Z h' a (vs.set i (.int z)) → oG p e below s n0 kc ks Q (T'.setTop (mkF m pc' L S))) : oG p e below s n0 kc ks Q (T.setTop (mkF m pc L (.int z :: .int j :: .ref a :: S))) := by
  obtain ⟨locs, X, eT, N, hx, hby, hml, hZ, hown, hnm, hret, hlk, hn⟩ := H
  subst hp
  have A' := A
  obtain ⟨-, cl, A, r⟩ := A
  obtain ⟨T', h', X', e', W, st⟩ := stI X hx hZ eT A (j := j) (o_inb r h0 h1) (g := mkF m pc L (.int z :: .int j :: .ref a :: S)) rfl rfl (hb hby hd)
  have en := o_nat h0
  have W2 : Wr h h' a i _ := en ▸ W
  exact oG.go st (k T' h' ⟨_, X', e', Fr.snoc X' N ha, hx, hby, hml, hZ, hown, hnm, hret, hlk, hn⟩ W2 (A'.same W2))
theorem o_castore (H : oH p l e R s m args below meth c bc ml y rt Z n0 T h cells slots) {a : Addr} {j : Int32} {z : Int32} {vs : List Value} (i : Nat) (A : oA .char Z h a vs) (h0 : j.toInt = (i : Int)) (h1 : i < vs.length) (ha : n0 ≤ a) (hd : decode bc pc = .ok (.castore, 1)) (hp : pc + 1 = pc')
    (k : ∀ (T' : State) (h' : Heap), oH p l e R s m args below meth c bc ml y rt Z n0 T' h' cells slots → Wr h h' a i (.int (nar .char z)) → oA .char Z h' a (vs.set i (.int (nar .char z))) → oG p e below s n0 kc ks Q (T'.setTop (mkF m pc' L S))) : oG p e below s n0 kc ks Q (T.setTop (mkF m pc L (.int z :: .int j :: .ref a :: S))) := by
  obtain ⟨locs, X, eT, N, hx, hby, hml, hZ, hown, hnm, hret, hlk, hn⟩ := H
  subst hp
  have A' := A
  obtain ⟨-, cl, A, r⟩ := A
  obtain ⟨T', h', X', e', W, st⟩ := stC X hx hZ eT A (j := j) (o_inb r h0 h1) (g := mkF m pc L (.int z :: .int j :: .ref a :: S)) rfl rfl (hb hby hd)
  have en := o_nat h0
  have W2 : Wr h h' a i _ := en ▸ W
  exact oG.go st (k T' h' ⟨_, X', e', Fr.snoc X' N ha, hx, hby, hml, hZ, hown, hnm, hret, hlk, hn⟩ W2 (A'.same W2))
theorem o_bastore (H : oH p l e R s m args below meth c bc ml y rt Z n0 T h cells slots) {a : Addr} {j : Int32} {z : Int32} {vs : List Value} (i : Nat) (A : oA .byte Z h a vs) (h0 : j.toInt = (i : Int)) (h1 : i < vs.length) (ha : n0 ≤ a) (hd : decode bc pc = .ok (.bastore, 1)) (hp : pc + 1 = pc')
    (k : ∀ (T' : State) (h' : Heap), oH p l e R s m args below meth c bc ml y rt Z n0 T' h' cells slots → Wr h h' a i (.int (nar .byte z)) → oA .byte Z h' a (vs.set i (.int (nar .byte z))) → oG p e below s n0 kc ks Q (T'.setTop (mkF m pc' L S))) : oG p e below s n0 kc ks Q (T.setTop (mkF m pc L (.int z :: .int j :: .ref a :: S))) := by
  obtain ⟨locs, X, eT, N, hx, hby, hml, hZ, hown, hnm, hret, hlk, hn⟩ := H
  subst hp
  have A' := A
  obtain ⟨-, cl, A, r⟩ := A
  obtain ⟨T', h', X', e', W, st⟩ := stB X hx hZ eT A (j := j) (o_inb r h0 h1) (g := mkF m pc L (.int z :: .int j :: .ref a :: S)) rfl rfl (hb hby hd)
  have en := o_nat h0
  have W2 : Wr h h' a i _ := en ▸ W
  exact oG.go st (k T' h' ⟨_, X', e', Fr.snoc X' N ha, hx, hby, hml, hZ, hown, hnm, hret, hlk, hn⟩ W2 (A'.same W2))
theorem o_lastore (H : oH p l e R s m args below meth c bc ml y rt Z n0 T h cells slots) {a : Addr} {j : Int32} {z : Int64} {vs : List Value} (i : Nat) (A : oA .long Z h a vs) (h0 : j.toInt = (i : Int)) (h1 : i < vs.length) (ha : n0 ≤ a) (hd : decode bc pc = .ok (.lastore, 1)) (hp : pc + 1 = pc')
    (k : ∀ (T' : State) (h' : Heap), oH p l e R s m args below meth c bc ml y rt Z n0 T' h' cells slots → Wr h h' a i (.long z) → oA .long Z h' a (vs.set i (.long z)) → oG p e below s n0 kc ks Q (T'.setTop (mkF m pc' L S))) : oG p e below s n0 kc ks Q (T.setTop (mkF m pc L (.long z :: .int j :: .ref a :: S))) := by
  obtain ⟨locs, X, eT, N, hx, hby, hml, hZ, hown, hnm, hret, hlk, hn⟩ := H
  subst hp
  have A' := A
  obtain ⟨-, cl, A, r⟩ := A
  obtain ⟨T', h', X', e', W, st⟩ := stJ X hx hZ eT A (j := j) (o_inb r h0 h1) (g := mkF m pc L (.long z :: .int j :: .ref a :: S)) rfl rfl (hb hby hd)
  have en := o_nat h0
  have W2 : Wr h h' a i _ := en ▸ W
  exact oG.go st (k T' h' ⟨_, X', e', Fr.snoc X' N ha, hx, hby, hml, hZ, hown, hnm, hret, hlk, hn⟩ W2 (A'.same W2))
theorem o_static (H : oH p l e R s m args below meth c bc ml y rt Z n0 T h cells slots) {yc : MethodName} {bcc : ByteArray} {maxL i : Nat} {rtc : Option FieldType} {rm : Room} {Q' : Option Value → Heap → Prop} {St : List Value} (argsL : List Value) (S : List Value)
    (con : oC l Z n0 yc bcc maxL rtc rm rm.cells rm.slots argsL.toArray h Q') (wl : (Jvm.Cond.methodLink y.cls i yc).before a0 Z = true) (ws : (Jvm.Cond.static yc).before a0 Z = true) (wz : (Jvm.Cond.initialized yc.cls).before a0 Z = true) (wc : (Jvm.Cond.code yc bcc maxL rtc).before a0 Z = true) (hy : yc.cls ≠ "java/lang/invoke/MethodHandle" ∧ yc.cls ≠ "java/lang/invoke/VarHandle") (hlen : ∀ sig, parseMethodDescriptor yc.desc = some sig → argsL.length = sig.parameters.length) (hst : St = argsL.reverse ++ S) (hsz : L.size = ml) (hf : rm.frames + 1 ≤ R.frames) (hlo : (S.map fun v => v.category).sum + (maxL + 11) + rm.locals ≤ R.locals) (hc : cells + rm.cells ≤ R.cells) (hs : slots + rm.slots ≤ R.slots)
    (hd : decode bc pc = .ok (.invokestatic i, 3)) (hp : pc + 3 = pc') (k : ∀ (T' : State) (v : Option Value) (h' : Heap), oH p l e R s m args below meth c bc ml y rt Z n0 T' h' (cells + rm.cells) (slots + rm.slots) → Q' v h' → oG p e below s n0 kc ks Q (T'.setTop (mkF m pc' L (v.toList ++ S)))) : oG p e below s n0 kc ks Q (T.setTop (mkF m pc L St)) := by
  obtain ⟨locs, X, eT, N, hx, hby, hml, hZ, hown, hnm, hret, hlk, hn⟩ := H
  subst hp
  subst hst
  obtain ⟨v, _, ⟨T', L1, k1, n1⟩, -, X', ⟨Lc, hQ, l', y', z'⟩, st⟩ := Jvm.LawKit.callS X hx (y := yc) hown (mvT hZ wl) (mvT hZ ws) (mvT hZ wz) (mvT hZ wc) hy (backOf (W := (S.map fun v => v.category).sum) (Q := fun v h L => Q' v h ∧ Fr n0 L) (con []) hZ wc wz hf hlo) (g := mkF m pc L (argsL.reverse ++ S)) rfl (by rw [hml]; exact hsz) (argsL := argsL) (rest := S) hlen rfl (by show 2 * 0 + _ ≤ _; omega) (hb hby hd) (fun _ _ => ⟨rfl, eT, hc, hs⟩)
  dsimp only [Pt.U, Pt.locs, Pt.cells, Pt.slots] at X' l' y' z' st hQ
  subst l' y' z'
  exact oG.go (st) (k _ _ _ ⟨_, X', rfl, Fr.app N hQ.2, hx, hby, hml, hZ, hown, hnm, hret, hlk, hn⟩ hQ.1)
theorem o_special (H : oH p l e R s m args below meth c bc ml y rt Z n0 T h cells slots) {yc : MethodName} {bcc : ByteArray} {maxL i : Nat} {rm : Room} {a : Addr} {Q' : Option Value → Heap → Prop} {St : List Value} (argsL : List Value) (S : List Value)
    (con : oC l Z n0 yc bcc maxL none rm rm.cells rm.slots (.ref a :: argsL).toArray h Q') (hy1 : yc.name = "<init>") (wl : (Jvm.Cond.methodLink y.cls i yc).before a0 Z = true) (ws : (Jvm.Cond.instanceMethod yc).before a0 Z = true) (wz : (Jvm.Cond.initialized yc.cls).before a0 Z = true) (wc : (Jvm.Cond.code yc bcc maxL none).before a0 Z = true) (hy : yc.cls ≠ "java/lang/invoke/MethodHandle" ∧ yc.cls ≠ "java/lang/invoke/VarHandle") (hlen : ∀ sig, parseMethodDescriptor yc.desc = some sig → argsL.length = sig.parameters.length) (hst : St = argsL.reverse ++ .ref a :: S) (hsz : L.size = ml) (hf : rm.frames + 1 ≤ R.frames) (hlo : (S.map fun v => v.category).sum + (maxL + 11) + rm.locals ≤ R.locals) (hc : cells + rm.cells ≤ R.cells) (hs : slots + rm.slots ≤ R.slots)
    (hd : decode bc pc = .ok (.invokespecial i, 3)) (hp : pc + 3 = pc') (k : ∀ (T' : State) (v : Option Value) (h' : Heap), oH p l e R s m args below meth c bc ml y rt Z n0 T' h' (cells + rm.cells) (slots + rm.slots) → Q' v h' → oG p e below s n0 kc ks Q (T'.setTop (mkF m pc' L (v.toList ++ S)))) : oG p e below s n0 kc ks Q (T.setTop (mkF m pc L St)) := by
  obtain ⟨locs, X, eT, N, hx, hby, hml, hZ, hown, hnm, hret, hlk, hn⟩ := H
  subst hp
  subst hst
  obtain ⟨v, _, ⟨T', L1, k1, n1⟩, -, X', ⟨Lc, hQ, l', y', z'⟩, st⟩ := X.specialBack hx (y := yc) hy1 hown (mvT hZ wl) (mvT hZ ws) (mvT hZ wc) hy (backOf (W := (S.map fun v => v.category).sum) (Q := fun v h L => Q' v h ∧ Fr n0 L) (con []) hZ wc wz hf hlo) (g := mkF m pc L (argsL.reverse ++ .ref a :: S)) rfl (by rw [hml]; exact hsz) (Steps.refl _) (a := a) (argsL := argsL) (rest := S) hlen rfl (by show 2 * 0 + _ ≤ _; omega) (hb hby hd) (fun _ _ => ⟨rfl, eT, hc, hs⟩)
  dsimp only [Pt.U, Pt.locs, Pt.cells, Pt.slots] at X' l' y' z' st hQ
  subst l' y' z'
  exact oG.go (fun _ hr => st.trans hr) (k _ _ _ ⟨_, X', rfl, Fr.app N hQ.2, hx, hby, hml, hZ, hown, hnm, hret, hlk, hn⟩ hQ.1)
theorem o_virtual (H : oH p l e R s m args below meth c bc ml y rt Z n0 T h cells slots) {yc zc : MethodName} {K : String} {bcc : ByteArray} {maxL i : Nat} {rtc : Option FieldType} {rm : Room} {a : Addr} {Q' : Option Value → Heap → Prop} {St : List Value} (argsL : List Value) (S : List Value)
    (con : oC l Z n0 zc bcc maxL rtc rm rm.cells rm.slots (.ref a :: argsL).toArray h Q') (E : Exa Z h a K) (wl : (Jvm.Cond.methodLink y.cls i yc).before a0 Z = true) (wd : (Jvm.Cond.declares yc).before a0 Z = true) (hnf : ∀ {s' : State}, Z.Warmed39 s'.vm → NotFace s' yc) (wsel : (Jvm.Cond.selects K yc zc).before a0 Z = true) (ws : (Jvm.Cond.instanceMethod zc).before a0 Z = true) (wz : (Jvm.Cond.initialized zc.cls).before a0 Z = true) (wc : (Jvm.Cond.code zc bcc maxL rtc).before a0 Z = true) (hy : yc.cls ≠ "java/lang/invoke/MethodHandle" ∧ yc.cls ≠ "java/lang/invoke/VarHandle") (hlen : ∀ sig, parseMethodDescriptor yc.desc = some sig → argsL.length = sig.parameters.length) (hst : St = argsL.reverse ++ .ref a :: S) (hsz : L.size = ml) (hf : rm.frames + 1 ≤ R.frames) (hlo : (S.map fun v => v.category).sum + (maxL + 11) + rm.locals ≤ R.locals) (hc : cells + rm.cells ≤ R.cells) (hs : slots + rm.slots ≤ R.slots)
    (hd : decode bc pc = .ok (.invokevirtual i, 3)) (hp : pc + 3 = pc') (k : ∀ (T' : State) (v : Option Value) (h' : Heap), oH p l e R s m args below meth c bc ml y rt Z n0 T' h' (cells + rm.cells) (slots + rm.slots) → Q' v h' → oG p e below s n0 kc ks Q (T'.setTop (mkF m pc' L (v.toList ++ S)))) : oG p e below s n0 kc ks Q (T.setTop (mkF m pc L St)) := by
  obtain ⟨locs, X, eT, N, hx, hby, hml, hZ, hown, hnm, hret, hlk, hn⟩ := H
  subst hp
  subst hst
  obtain ⟨cq, kq, qa, qb, qc⟩ := isOf hZ eT E
  obtain ⟨v, _, ⟨T', L1, k1, n1⟩, -, X', ⟨Lc, hQ, l', y', z'⟩, st⟩ := X.virtualBack hx (y := yc) (z := zc) hown (mvT hZ wl) (mvT hZ wd) (hnf hZ) (mvT hZ wsel) (mvT hZ ws) hy (backOf (W := (S.map fun v => v.category).sum) (Q := fun v h L => Q' v h ∧ Fr n0 L) (con []) hZ wc wz hf hlo) qa qc (g := mkF m pc L (argsL.reverse ++ .ref a :: S)) rfl (by rw [hml]; exact hsz) (Steps.refl _) (argsL := argsL) (rest := S) hlen rfl (by show 2 * 0 + _ ≤ _; omega) (hb hby hd) (fun _ _ => ⟨rfl, eT, hc, hs⟩)
  dsimp only [Pt.U, Pt.locs, Pt.cells, Pt.slots] at X' l' y' z' st hQ
  subst l' y' z'
  exact oG.go (fun _ hr => st.trans hr) (k _ _ _ ⟨_, X', rfl, Fr.app N hQ.2, hx, hby, hml, hZ, hown, hnm, hret, hlk, hn⟩ hQ.1)
theorem o_super (H : oH p l e R s m args below meth c bc ml y rt Z n0 T h cells slots) {yc : MethodName} {K : String} {bcc : ByteArray} {maxL i : Nat} {rtc : Option FieldType} {rm : Room} {a : Addr} {Q' : Option Value → Heap → Prop} {St : List Value} (argsL : List Value) (S : List Value)
    (con : oC l Z n0 yc bcc maxL rtc rm rm.cells rm.slots (.ref a :: argsL).toArray h Q') (F : Ins Z h a K true) (hy1 : yc.name ≠ "<init>") (wl : (Jvm.Cond.methodLink y.cls i yc).before a0 Z = true) (wm : (Jvm.Cond.sameMethod yc.cls yc.cls yc.name yc.desc).before a0 Z = true) (wu : (Jvm.Cond.superclass y.cls yc.cls).before a0 Z = true) (ws : (Jvm.Cond.instanceMethod yc).before a0 Z = true) (wz : (Jvm.Cond.initialized yc.cls).before a0 Z = true) (wc : (Jvm.Cond.code yc bcc maxL rtc).before a0 Z = true) (hy : yc.cls ≠ "java/lang/invoke/MethodHandle" ∧ yc.cls ≠ "java/lang/invoke/VarHandle") (hlen : ∀ sig, parseMethodDescriptor yc.desc = some sig → argsL.length = sig.parameters.length) (hst : St = argsL.reverse ++ .ref a :: S) (hsz : L.size = ml) (hf : rm.frames + 1 ≤ R.frames) (hlo : (S.map fun v => v.category).sum + (maxL + 11) + rm.locals ≤ R.locals) (hc : cells + rm.cells ≤ R.cells) (hs : slots + rm.slots ≤ R.slots)
    (hd : decode bc pc = .ok (.invokespecial i, 3)) (hp : pc + 3 = pc') (k : ∀ (T' : State) (v : Option Value) (h' : Heap), oH p l e R s m args below meth c bc ml y rt Z n0 T' h' (cells + rm.cells) (slots + rm.slots) → Q' v h' → oG p e below s n0 kc ks Q (T'.setTop (mkF m pc' L (v.toList ++ S)))) : oG p e below s n0 kc ks Q (T.setTop (mkF m pc L St)) := by
  obtain ⟨locs, X, eT, N, hx, hby, hml, hZ, hown, hnm, hret, hlk, hn⟩ := H
  subst hp
  subst hst
  obtain ⟨v, _, ⟨T', L1, k1, n1⟩, -, X', ⟨Lc, hQ, l', y', z'⟩, st⟩ := superBack X hx hZ (y := yc) hown wl wm ws wu hy1 (backOf (W := (S.map fun v => v.category).sum) (Q := fun v h L => Q' v h ∧ Fr n0 L) (con []) hZ wc wz hf hlo) eT F (g := mkF m pc L (argsL.reverse ++ .ref a :: S)) rfl (by rw [hml]; exact hsz) wc (argsL := argsL) (rest := S) hlen rfl (by show 2 * 0 + _ ≤ _; omega) (hb hby hd) (fun _ _ => ⟨rfl, eT, hc, hs⟩)
  dsimp only [Pt.U, Pt.locs, Pt.cells, Pt.slots] at X' l' y' z' st hQ
  subst l' y' z'
  exact oG.go (fun _ hr => st.trans hr) (k _ _ _ ⟨_, X', rfl, Fr.app N hQ.2, hx, hby, hml, hZ, hown, hnm, hret, hlk, hn⟩ hQ.1)
theorem o_decl {yc : MethodName} {bytes : ByteArray} {mx : Nat} {r : Option FieldType} (wi : (Jvm.Cond.instanceMethod yc).before a0 Z = true) (wc : (Jvm.Cond.code yc bytes mx r).before a0 Z = true) : (Jvm.Cond.declares yc).before a0 Z = true := by
  obtain ⟨mk, methM, hnamed, hmethM, hstM, habM⟩ := Cond.instanceMethod_spec wi
  obtain ⟨m2, cM, q1, -, -, -, -, -, -, hsig⟩ := Cond.code_spec hnamed wc
  cases hmethM.symm.trans q1
  simp [Cond.before, Cond.holds, Cond.value, hnamed, hmethM, hstM, hsig]
theorem o_same {yc zc : MethodName} {K : String} (wi : (Jvm.Cond.instanceMethod yc).before a0 Z = true) (ws : (Jvm.Cond.selects K zc zc).before a0 Z = true) (hz : zc.cls = yc.cls) (hy : yc.cls ≠ "java/lang/invoke/MethodHandle" ∧ yc.cls ≠ "java/lang/invoke/VarHandle") : (Jvm.Cond.sameMethod yc.cls yc.cls yc.name yc.desc).before a0 Z = true := by
  obtain ⟨mk, methM, hnamed, hmethM, hstM, habM⟩ := Cond.instanceMethod_spec wi
  obtain ⟨c2, r2, m2, -, -, q3, -, kP, hkP, hkPi⟩ := Cond.selects_spec ws
  have hf := State.methodFound?_of_named hnamed hy
  have hc := findClass_of_methodNamed hnamed
  have hc2 := findClass_of_methodNamed q3
  rw [hz] at hc2
  have e : mk.cls = m2.cls := Option.some.inj (hc.symm.trans hc2)
  rw [← e] at hkP
  have hn' : Z.methodNamed? ⟨yc.cls, yc.name, yc.desc⟩ = some mk := hnamed
  simp [Cond.before, Cond.holds, Cond.value, hc, hf, hn', hkP, hkPi]
def oFit (ty : FieldType) (vs : List Value) : Prop := ∀ v ∈ vs, fits ty v = true
theorem oFit.set {ty : FieldType} {vs : List Value} (F : oFit ty vs) {j : Nat} {v : Value} (hv : fits ty v = true) : oFit ty (vs.set j v) := fun u hu => by
  rcases List.mem_or_eq_of_mem_set hu with q | q
  · exact F u q
  · rw [q]; exact hv
theorem o_clone (H : oH p l e R s m args below meth c bc ml y rt Z n0 T h cells slots) {i : Nat} {a : Addr} {vs : List Value} {ty : FieldType} {ad : String} (cap : Nat) (wl : (Jvm.Cond.methodLink y.cls i ⟨ad, "clone", "()Ljava/lang/Object;"⟩).before a0 Z = true) (w2 : (Jvm.Cond.sameMethod ad "java/lang/Object" "clone" "()Ljava/lang/Object;").before a0 Z = true) (w3 : (Jvm.Cond.native ⟨"java/lang/Object", "clone", "()Ljava/lang/Object;"⟩).before a0 Z = true)
    (w4 : (Jvm.Cond.instanceMethod ⟨"java/lang/Object", "clone", "()Ljava/lang/Object;"⟩).before a0 Z = true) (w5 : (Jvm.Cond.selects ad ⟨ad, "clone", "()Ljava/lang/Object;"⟩ ⟨"java/lang/Object", "clone", "()Ljava/lang/Object;"⟩).before a0 Z = true) (w6 : (Jvm.Cond.castable ad "java/lang/Cloneable").before a0 Z = true)
    (A : oA ty Z h a vs) (E : Exa Z h a ad) (F : oFit ty vs) (hcap : vs.length ≤ cap) (hd : decode bc pc = .ok (.invokevirtual i, 3)) (hp : pc + 3 = pc') (hsz : L.size = ml) (hf : 1 ≤ R.frames) (hlo : (S.map fun v => v.category).sum + 14 ≤ R.locals) (hc : cells + 1 ≤ R.cells) (hl : slots + cap ≤ R.slots)
    (k : ∀ (T' : State) (h' : Heap) (b : Addr), b = h.size → oH p l e R s m args below meth c bc ml y rt Z n0 T' h' (cells + 1) (slots + cap) → Ext h h' → oA ty Z h' b vs → Exa Z h' b ad → oG p e below s n0 kc ks Q (T'.setTop (mkF m pc' L (.ref b :: S)))) : oG p e below s n0 kc ks Q (T.setTop (mkF m pc L (.ref a :: S))) := by
  obtain ⟨locs, X, eT, N, hx, hby, hml, hZ, hown, hnm, hret, hlk, hn⟩ := H
  subst hp
  obtain ⟨q, cl, A, r⟩ := A
  have hF : FitC Z cl := fitC_of A (fun j hj v hv => F v (by rw [r] at hv; exact List.mem_of_getElem? (by simpa using hv)))
  obtain ⟨T', h', X', e', E', A', E2, st⟩ := cloneA X hx hZ hown wl w2 w3 w4 w5 w6 eT A E hF (g := mkF m pc L (.ref a :: S)) rfl (by rw [hml]; exact hsz) (rest := S) rfl (hb hby hd) hf (W := (S.map fun v => v.category).sum) (cap := cap) (by show 2 * 0 + _ ≤ _; omega) hlo (by rw [r]; simpa using hcap) hc hl
  exact oG.go st (k T' h' _ rfl ⟨locs, X', e', N, hx, hby, hml, hZ, hown, hnm, hret, hlk, hn⟩ E' ⟨q, _, A', r⟩ E2)
theorem o_nf2 {yc zc : MethodName} {K : String} (w : (Jvm.Cond.selects K zc zc).before a0 Z = true) (hz : zc.cls = yc.cls) : ∀ {s' : State}, Z.Warmed39 s'.vm → NotFace s' yc := fun {s'} hZ r0 h0 => by
  have w' : (Jvm.Cond.selects K zc zc).before #[] s' = true := mvT hZ w
  obtain ⟨c2, r2, m2, -, -, q3, -, kP, hkP, hkPi⟩ := Cond.selects_spec w'
  have e1 := findClass_of_methodNamed h0
  have e2 := findClass_of_methodNamed q3
  rw [hz] at e2
  have e : r0.cls = m2.cls := Option.some.inj (e1.symm.trans e2)
  exact ⟨kP, by rw [e]; exact hkP, hkPi⟩
theorem o_nf {yc : MethodName} {K : String} (w : (Jvm.Cond.selects K yc yc).before a0 Z = true) : ∀ {s' : State}, Z.Warmed39 s'.vm → NotFace s' yc := fun {s'} hZ => notFace_of_selects (args := #[]) (mvT hZ w)
theorem n_lt (x z : Int32) : x < z ↔ x.toInt < z.toInt := Int32.lt_iff_toInt_lt
theorem n_eq (x z : Int32) : x = z ↔ x.toInt = z.toInt := Int32.toInt_inj.symm
theorem n_ltJ (x z : Int64) : x < z ↔ x.toInt < z.toInt := Int64.lt_iff_toInt_lt
theorem n_eqJ (x z : Int64) : x = z ↔ x.toInt = z.toInt := Int64.toInt_inj.symm
theorem n_and (x z : Int32) (h : 0 ≤ z.toInt) : 0 ≤ (x &&& z).toInt ∧ (x &&& z).toInt ≤ z.toInt := by
  have q : (x &&& z).toBitVec.toNat = x.toBitVec.toNat &&& z.toBitVec.toNat := by show (x.toBitVec &&& z.toBitVec).toNat = _; rw [BitVec.toNat_and]
  have o : x.toBitVec.toNat &&& z.toBitVec.toNat ≤ z.toBitVec.toNat := Nat.and_le_right
  have lm := z.toBitVec.isLt
  change 0 ≤ z.toBitVec.toInt at h
  show 0 ≤ (x &&& z).toBitVec.toInt ∧ (x &&& z).toBitVec.toInt ≤ z.toBitVec.toInt
  rw [BitVec.toInt_eq_toNat_cond] at h
  simp only [BitVec.toInt_eq_toNat_cond, q]
  split at h <;> (repeat' split) <;> omega
theorem n_andJ (x z : Int64) (h : 0 ≤ z.toInt) : 0 ≤ (x &&& z).toInt ∧ (x &&& z).toInt ≤ z.toInt := by
  have q : (x &&& z).toBitVec.toNat = x.toBitVec.toNat &&& z.toBitVec.toNat := by show (x.toBitVec &&& z.toBitVec).toNat = _; rw [BitVec.toNat_and]
  have o : x.toBitVec.toNat &&& z.toBitVec.toNat ≤ z.toBitVec.toNat := Nat.and_le_right
  have lm := z.toBitVec.isLt
  change 0 ≤ z.toBitVec.toInt at h
  show 0 ≤ (x &&& z).toBitVec.toInt ∧ (x &&& z).toBitVec.toInt ≤ z.toBitVec.toInt
  rw [BitVec.toInt_eq_toNat_cond] at h
  simp only [BitVec.toInt_eq_toNat_cond, q]
  split at h <;> (repeat' split) <;> omega
theorem n_rem (x z : Int32) (d : Int) (hd : 0 < d) (hz : z.toInt = d) (hx : 0 ≤ x.toInt) : (x % z).toInt = x.toInt % d := by
  rw [Int32.toInt_mod, hz, Int.tmod_eq_emod_of_nonneg hx]
theorem n_nat (x : Int32) (n : Nat) (h0 : 0 ≤ x.toInt) (h1 : x.toInt < n) : ∃ i : Fin n, x = Int32.ofNat i.1 := by
  refine ⟨⟨x.toInt.toNat, by omega⟩, ?_⟩
  rw [n_eq]
  have := Int32.toInt_lt x
  have e : (Int32.ofNat x.toInt.toNat).toInt = x.toInt.toNat := Int32.toInt_ofNat_of_lt (by omega)
  show x.toInt = (Int32.ofNat x.toInt.toNat).toInt
  rw [e]; omega
end Own
theorem w0 {Z : State} {a0 : Array Value} (hw : ∀ d ∈ tables_1, d.before a0 Z = true) : (Jvm.Cond.constant "com/example/following_sibling/followingsibling/MarkedIndexesUnmarkPinLaw" (13 : Nat) (65535 : Int32)).before a0 Z = true := hw _ (List.mem_of_getElem? (i := 0) rfl)
theorem w1 {Z : State} {a0 : Array Value} (hw : ∀ d ∈ tables_1, d.before a0 Z = true) : (Jvm.Cond.classLink "com/example/following_sibling/followingsibling/MarkedIndexesUnmarkPinLaw" (15 : Nat) "com/example/following_sibling/followingsibling/MarkedIndexes").before a0 Z = true := hw _ (List.mem_of_getElem? (i := 1) rfl)
theorem w2 {Z : State} {a0 : Array Value} (hw : ∀ d ∈ tables_1, d.before a0 Z = true) : (Jvm.Cond.instantiable "com/example/following_sibling/followingsibling/MarkedIndexes" (1 : Nat)).before a0 Z = true := hw _ (List.mem_of_getElem? (i := 2) rfl)
theorem w3 {Z : State} {a0 : Array Value} (hw : ∀ d ∈ tables_1, d.before a0 Z = true) : (Jvm.Cond.initialized "com/example/following_sibling/followingsibling/MarkedIndexes").before a0 Z = true := hw _ (List.mem_of_getElem? (i := 3) rfl)
theorem w4 {Z : State} {a0 : Array Value} (hw : ∀ d ∈ tables_1, d.before a0 Z = true) : (Jvm.Cond.methodLink "com/example/following_sibling/followingsibling/MarkedIndexesUnmarkPinLaw" (17 : Nat) ({ cls := "com/example/following_sibling/followingsibling/MarkedIndexes", name := "<init>", desc := "()V" } : Jvm.MethodName)).before a0 Z = true := hw _ (List.mem_of_getElem? (i := 4) rfl)
theorem w5 {Z : State} {a0 : Array Value} (hw : ∀ d ∈ tables_1, d.before a0 Z = true) : (Jvm.Cond.instanceMethod ({ cls := "com/example/following_sibling/followingsibling/MarkedIndexes", name := "<init>", desc := "()V" } : Jvm.MethodName)).before a0 Z = true := hw _ (List.mem_of_getElem? (i := 5) rfl)
theorem w6 {Z : State} {a0 : Array Value} (hw : ∀ d ∈ tables_1, d.before a0 Z = true) : (Jvm.Cond.code ({ cls := "com/example/following_sibling/followingsibling/MarkedIndexes", name := "<init>", desc := "()V" } : Jvm.MethodName) prog_62_method_1_code (1 : Nat) (Option.none : Option Jvm.ClassFile.FieldType)).before a0 Z = true := hw _ (List.mem_of_getElem? (i := 6) rfl)
theorem w7 {Z : State} {a0 : Array Value} (hw : ∀ d ∈ tables_1, d.before a0 Z = true) : (Jvm.Cond.methodLink "com/example/following_sibling/followingsibling/MarkedIndexes" (3 : Nat) ({ cls := "java/lang/Object", name := "<init>", desc := "()V" } : Jvm.MethodName)).before a0 Z = true := hw _ (List.mem_of_getElem? (i := 7) rfl)
theorem w8 {Z : State} {a0 : Array Value} (hw : ∀ d ∈ tables_1, d.before a0 Z = true) : (Jvm.Cond.instanceMethod ({ cls := "java/lang/Object", name := "<init>", desc := "()V" } : Jvm.MethodName)).before a0 Z = true := hw _ (List.mem_of_getElem? (i := 8) rfl)
theorem w9 {Z : State} {a0 : Array Value} (hw : ∀ d ∈ tables_1, d.before a0 Z = true) : (Jvm.Cond.code ({ cls := "java/lang/Object", name := "<init>", desc := "()V" } : Jvm.MethodName) object_method_1_code (1 : Nat) (Option.none : Option Jvm.ClassFile.FieldType)).before a0 Z = true := hw _ (List.mem_of_getElem? (i := 9) rfl)
theorem w10 {Z : State} {a0 : Array Value} (hw : ∀ d ∈ tables_1, d.before a0 Z = true) : (Jvm.Cond.classLink "com/example/following_sibling/followingsibling/MarkedIndexes" (9 : Nat) "[J").before a0 Z = true := hw _ (List.mem_of_getElem? (i := 10) rfl)
theorem w11 {Z : State} {a0 : Array Value} (hw : ∀ d ∈ tables_1, d.before a0 Z = true) : (Jvm.Cond.arrayOver (Jvm.ClassFile.FieldType.array Jvm.ClassFile.FieldType.long)).before a0 Z = true := hw _ (List.mem_of_getElem? (i := 11) rfl)
theorem w12 {Z : State} {a0 : Array Value} (hw : ∀ d ∈ tables_1, d.before a0 Z = true) : (Jvm.Cond.fieldLink "com/example/following_sibling/followingsibling/MarkedIndexes" (11 : Nat) "com/example/following_sibling/followingsibling/MarkedIndexes" "levels" "[[J").before a0 Z = true := hw _ (List.mem_of_getElem? (i := 12) rfl)
theorem w13 {Z : State} {a0 : Array Value} (hw : ∀ d ∈ tables_1, d.before a0 Z = true) : (Jvm.Cond.lays "com/example/following_sibling/followingsibling/MarkedIndexes" "com/example/following_sibling/followingsibling/MarkedIndexes" "levels" "[[J").before a0 Z = true := hw _ (List.mem_of_getElem? (i := 13) rfl)
theorem w14 {Z : State} {a0 : Array Value} (hw : ∀ d ∈ tables_1, d.before a0 Z = true) : (Jvm.Cond.methodLink "com/example/following_sibling/followingsibling/MarkedIndexesUnmarkPinLaw" (18 : Nat) ({ cls := "com/example/following_sibling/followingsibling/MarkedIndexes", name := "mark", desc := "(I)V" } : Jvm.MethodName)).before a0 Z = true := hw _ (List.mem_of_getElem? (i := 14) rfl)
theorem w15 {Z : State} {a0 : Array Value} (hw : ∀ d ∈ tables_1, d.before a0 Z = true) : (Jvm.Cond.declares ({ cls := "com/example/following_sibling/followingsibling/MarkedIndexes", name := "mark", desc := "(I)V" } : Jvm.MethodName)).before a0 Z = true := hw _ (List.mem_of_getElem? (i := 15) rfl)
theorem w16 {Z : State} {a0 : Array Value} (hw : ∀ d ∈ tables_1, d.before a0 Z = true) : (Jvm.Cond.instanceMethod ({ cls := "com/example/following_sibling/followingsibling/MarkedIndexes", name := "mark", desc := "(I)V" } : Jvm.MethodName)).before a0 Z = true := hw _ (List.mem_of_getElem? (i := 16) rfl)
theorem w17 {Z : State} {a0 : Array Value} (hw : ∀ d ∈ tables_1, d.before a0 Z = true) : (Jvm.Cond.selects "com/example/following_sibling/followingsibling/MarkedIndexes" ({ cls := "com/example/following_sibling/followingsibling/MarkedIndexes", name := "mark", desc := "(I)V" } : Jvm.MethodName) ({ cls := "com/example/following_sibling/followingsibling/MarkedIndexes", name := "mark", desc := "(I)V" } : Jvm.MethodName)).before a0 Z = true := hw _ (List.mem_of_getElem? (i := 17) rfl)
theorem w18 {Z : State} {a0 : Array Value} (hw : ∀ d ∈ tables_1, d.before a0 Z = true) : (Jvm.Cond.code ({ cls := "com/example/following_sibling/followingsibling/MarkedIndexes", name := "mark", desc := "(I)V" } : Jvm.MethodName) prog_62_method_4_code (5 : Nat) (Option.none : Option Jvm.ClassFile.FieldType)).before a0 Z = true := hw _ (List.mem_of_getElem? (i := 18) rfl)
theorem w19 {Z : State} {a0 : Array Value} (hw : ∀ d ∈ tables_1, d.before a0 Z = true) : (Jvm.Cond.methodLink "com/example/following_sibling/followingsibling/MarkedIndexes" (46 : Nat) ({ cls := "com/example/following_sibling/followingsibling/MarkedIndexes", name := "grow", desc := "(I)V" } : Jvm.MethodName)).before a0 Z = true := hw _ (List.mem_of_getElem? (i := 19) rfl)
theorem w20 {Z : State} {a0 : Array Value} (hw : ∀ d ∈ tables_1, d.before a0 Z = true) : (Jvm.Cond.instanceMethod ({ cls := "com/example/following_sibling/followingsibling/MarkedIndexes", name := "grow", desc := "(I)V" } : Jvm.MethodName)).before a0 Z = true := hw _ (List.mem_of_getElem? (i := 20) rfl)
theorem w21 {Z : State} {a0 : Array Value} (hw : ∀ d ∈ tables_1, d.before a0 Z = true) : (Jvm.Cond.privateMethod ({ cls := "com/example/following_sibling/followingsibling/MarkedIndexes", name := "grow", desc := "(I)V" } : Jvm.MethodName)).before a0 Z = true := hw _ (List.mem_of_getElem? (i := 21) rfl)
theorem w22 {Z : State} {a0 : Array Value} (hw : ∀ d ∈ tables_1, d.before a0 Z = true) : (Jvm.Cond.code ({ cls := "com/example/following_sibling/followingsibling/MarkedIndexes", name := "grow", desc := "(I)V" } : Jvm.MethodName) prog_62_method_8_code (10 : Nat) (Option.none : Option Jvm.ClassFile.FieldType)).before a0 Z = true := hw _ (List.mem_of_getElem? (i := 22) rfl)
theorem w23 {Z : State} {a0 : Array Value} (hw : ∀ d ∈ tables_1, d.before a0 Z = true) : (Jvm.Cond.arrayClass Jvm.ClassFile.FieldType.long).before a0 Z = true := hw _ (List.mem_of_getElem? (i := 23) rfl)
theorem w24 {Z : State} {a0 : Array Value} (hw : ∀ d ∈ tables_1, d.before a0 Z = true) : (Jvm.Cond.methodLink "com/example/following_sibling/followingsibling/MarkedIndexes" (50 : Nat) ({ cls := "java/lang/Math", name := "max", desc := "(II)I" } : Jvm.MethodName)).before a0 Z = true := hw _ (List.mem_of_getElem? (i := 24) rfl)
theorem w25 {Z : State} {a0 : Array Value} (hw : ∀ d ∈ tables_1, d.before a0 Z = true) : (Jvm.Cond.static ({ cls := "java/lang/Math", name := "max", desc := "(II)I" } : Jvm.MethodName)).before a0 Z = true := hw _ (List.mem_of_getElem? (i := 25) rfl)
theorem w26 {Z : State} {a0 : Array Value} (hw : ∀ d ∈ tables_1, d.before a0 Z = true) : (Jvm.Cond.initialized "java/lang/Math").before a0 Z = true := hw _ (List.mem_of_getElem? (i := 26) rfl)
theorem w27 {Z : State} {a0 : Array Value} (hw : ∀ d ∈ tables_1, d.before a0 Z = true) : (Jvm.Cond.code ({ cls := "java/lang/Math", name := "max", desc := "(II)I" } : Jvm.MethodName) jdk_29_method_65_code (2 : Nat) (Option.some Jvm.ClassFile.FieldType.int)).before a0 Z = true := hw _ (List.mem_of_getElem? (i := 27) rfl)
theorem w28 {Z : State} {a0 : Array Value} (hw : ∀ d ∈ tables_1, d.before a0 Z = true) : (Jvm.Cond.methodLink "com/example/following_sibling/followingsibling/MarkedIndexes" (53 : Nat) ({ cls := "java/util/Arrays", name := "copyOf", desc := "([JI)[J" } : Jvm.MethodName)).before a0 Z = true := hw _ (List.mem_of_getElem? (i := 28) rfl)
theorem w29 {Z : State} {a0 : Array Value} (hw : ∀ d ∈ tables_1, d.before a0 Z = true) : (Jvm.Cond.static ({ cls := "java/util/Arrays", name := "copyOf", desc := "([JI)[J" } : Jvm.MethodName)).before a0 Z = true := hw _ (List.mem_of_getElem? (i := 29) rfl)
theorem w30 {Z : State} {a0 : Array Value} (hw : ∀ d ∈ tables_1, d.before a0 Z = true) : (Jvm.Cond.initialized "java/util/Arrays").before a0 Z = true := hw _ (List.mem_of_getElem? (i := 30) rfl)
theorem w31 {Z : State} {a0 : Array Value} (hw : ∀ d ∈ tables_1, d.before a0 Z = true) : (Jvm.Cond.code ({ cls := "java/util/Arrays", name := "copyOf", desc := "([JI)[J" } : Jvm.MethodName) jdk_65_method_124_code (3 : Nat) (Option.some (Jvm.ClassFile.FieldType.array Jvm.ClassFile.FieldType.long))).before a0 Z = true := hw _ (List.mem_of_getElem? (i := 31) rfl)
theorem w32 {Z : State} {a0 : Array Value} (hw : ∀ d ∈ tables_1, d.before a0 Z = true) : (Jvm.Cond.methodLink "java/util/Arrays" (304 : Nat) ({ cls := "java/lang/Math", name := "min", desc := "(II)I" } : Jvm.MethodName)).before a0 Z = true := hw _ (List.mem_of_getElem? (i := 32) rfl)
theorem w33 {Z : State} {a0 : Array Value} (hw : ∀ d ∈ tables_1, d.before a0 Z = true) : (Jvm.Cond.static ({ cls := "java/lang/Math", name := "min", desc := "(II)I" } : Jvm.MethodName)).before a0 Z = true := hw _ (List.mem_of_getElem? (i := 33) rfl)
theorem w34 {Z : State} {a0 : Array Value} (hw : ∀ d ∈ tables_1, d.before a0 Z = true) : (Jvm.Cond.code ({ cls := "java/lang/Math", name := "min", desc := "(II)I" } : Jvm.MethodName) jdk_29_method_69_code (2 : Nat) (Option.some Jvm.ClassFile.FieldType.int)).before a0 Z = true := hw _ (List.mem_of_getElem? (i := 34) rfl)
theorem w35 {Z : State} {a0 : Array Value} (hw : ∀ d ∈ tables_1, d.before a0 Z = true) : (Jvm.Cond.methodLink "java/util/Arrays" (150 : Nat) ({ cls := "java/lang/System", name := "arraycopy", desc := "(Ljava/lang/Object;ILjava/lang/Object;II)V" } : Jvm.MethodName)).before a0 Z = true := hw _ (List.mem_of_getElem? (i := 35) rfl)
theorem w36 {Z : State} {a0 : Array Value} (hw : ∀ d ∈ tables_1, d.before a0 Z = true) : (Jvm.Cond.static ({ cls := "java/lang/System", name := "arraycopy", desc := "(Ljava/lang/Object;ILjava/lang/Object;II)V" } : Jvm.MethodName)).before a0 Z = true := hw _ (List.mem_of_getElem? (i := 36) rfl)
theorem w37 {Z : State} {a0 : Array Value} (hw : ∀ d ∈ tables_1, d.before a0 Z = true) : (Jvm.Cond.initialized "java/lang/System").before a0 Z = true := hw _ (List.mem_of_getElem? (i := 37) rfl)
theorem w38 {Z : State} {a0 : Array Value} (hw : ∀ d ∈ tables_1, d.before a0 Z = true) : (Jvm.Cond.native ({ cls := "java/lang/System", name := "arraycopy", desc := "(Ljava/lang/Object;ILjava/lang/Object;II)V" } : Jvm.MethodName)).before a0 Z = true := hw _ (List.mem_of_getElem? (i := 38) rfl)
theorem w39 {Z : State} {a0 : Array Value} (hw : ∀ d ∈ tables_1, d.before a0 Z = true) : (Jvm.Cond.castable "[J" "[J").before a0 Z = true := hw _ (List.mem_of_getElem? (i := 39) rfl)
theorem w40 {Z : State} {a0 : Array Value} (hw : ∀ d ∈ tables_1, d.before a0 Z = true) : (Jvm.Cond.constantLong "com/example/following_sibling/followingsibling/MarkedIndexes" (29 : Nat) (-1 : Int64)).before a0 Z = true := hw _ (List.mem_of_getElem? (i := 40) rfl)
theorem w41 {Z : State} {a0 : Array Value} (hw : ∀ d ∈ tables_1, d.before a0 Z = true) : (Jvm.Cond.methodLink "com/example/following_sibling/followingsibling/MarkedIndexesUnmarkPinLaw" (22 : Nat) ({ cls := "com/example/following_sibling/followingsibling/MarkedIndexes", name := "unmark", desc := "(I)V" } : Jvm.MethodName)).before a0 Z = true := hw _ (List.mem_of_getElem? (i := 41) rfl)
theorem w42 {Z : State} {a0 : Array Value} (hw : ∀ d ∈ tables_1, d.before a0 Z = true) : (Jvm.Cond.declares ({ cls := "com/example/following_sibling/followingsibling/MarkedIndexes", name := "unmark", desc := "(I)V" } : Jvm.MethodName)).before a0 Z = true := hw _ (List.mem_of_getElem? (i := 42) rfl)
theorem w43 {Z : State} {a0 : Array Value} (hw : ∀ d ∈ tables_1, d.before a0 Z = true) : (Jvm.Cond.instanceMethod ({ cls := "com/example/following_sibling/followingsibling/MarkedIndexes", name := "unmark", desc := "(I)V" } : Jvm.MethodName)).before a0 Z = true := hw _ (List.mem_of_getElem? (i := 43) rfl)
theorem w44 {Z : State} {a0 : Array Value} (hw : ∀ d ∈ tables_1, d.before a0 Z = true) : (Jvm.Cond.selects "com/example/following_sibling/followingsibling/MarkedIndexes" ({ cls := "com/example/following_sibling/followingsibling/MarkedIndexes", name := "unmark", desc := "(I)V" } : Jvm.MethodName) ({ cls := "com/example/following_sibling/followingsibling/MarkedIndexes", name := "unmark", desc := "(I)V" } : Jvm.MethodName)).before a0 Z = true := hw _ (List.mem_of_getElem? (i := 44) rfl)
theorem w45 {Z : State} {a0 : Array Value} (hw : ∀ d ∈ tables_1, d.before a0 Z = true) : (Jvm.Cond.code ({ cls := "com/example/following_sibling/followingsibling/MarkedIndexes", name := "unmark", desc := "(I)V" } : Jvm.MethodName) prog_62_method_5_code (7 : Nat) (Option.none : Option Jvm.ClassFile.FieldType)).before a0 Z = true := hw _ (List.mem_of_getElem? (i := 45) rfl)
theorem w46 {Z : State} {a0 : Array Value} (hw : ∀ d ∈ tables_1, d.before a0 Z = true) : (Jvm.Cond.methodLink "com/example/following_sibling/followingsibling/MarkedIndexesUnmarkPinLaw" (25 : Nat) ({ cls := "com/example/following_sibling/followingsibling/MarkedIndexes", name := "nextUnmarked", desc := "(I)I" } : Jvm.MethodName)).before a0 Z = true := hw _ (List.mem_of_getElem? (i := 46) rfl)
theorem w47 {Z : State} {a0 : Array Value} (hw : ∀ d ∈ tables_1, d.before a0 Z = true) : (Jvm.Cond.declares ({ cls := "com/example/following_sibling/followingsibling/MarkedIndexes", name := "nextUnmarked", desc := "(I)I" } : Jvm.MethodName)).before a0 Z = true := hw _ (List.mem_of_getElem? (i := 47) rfl)
theorem w48 {Z : State} {a0 : Array Value} (hw : ∀ d ∈ tables_1, d.before a0 Z = true) : (Jvm.Cond.instanceMethod ({ cls := "com/example/following_sibling/followingsibling/MarkedIndexes", name := "nextUnmarked", desc := "(I)I" } : Jvm.MethodName)).before a0 Z = true := hw _ (List.mem_of_getElem? (i := 48) rfl)
theorem w49 {Z : State} {a0 : Array Value} (hw : ∀ d ∈ tables_1, d.before a0 Z = true) : (Jvm.Cond.selects "com/example/following_sibling/followingsibling/MarkedIndexes" ({ cls := "com/example/following_sibling/followingsibling/MarkedIndexes", name := "nextUnmarked", desc := "(I)I" } : Jvm.MethodName) ({ cls := "com/example/following_sibling/followingsibling/MarkedIndexes", name := "nextUnmarked", desc := "(I)I" } : Jvm.MethodName)).before a0 Z = true := hw _ (List.mem_of_getElem? (i := 49) rfl)
theorem w50 {Z : State} {a0 : Array Value} (hw : ∀ d ∈ tables_1, d.before a0 Z = true) : (Jvm.Cond.code ({ cls := "com/example/following_sibling/followingsibling/MarkedIndexes", name := "nextUnmarked", desc := "(I)I" } : Jvm.MethodName) prog_62_method_2_code (2 : Nat) (Option.some Jvm.ClassFile.FieldType.int)).before a0 Z = true := hw _ (List.mem_of_getElem? (i := 50) rfl)
theorem w51 {Z : State} {a0 : Array Value} (hw : ∀ d ∈ tables_1, d.before a0 Z = true) : (Jvm.Cond.methodLink "com/example/following_sibling/followingsibling/MarkedIndexes" (17 : Nat) ({ cls := "com/example/following_sibling/followingsibling/MarkedIndexes", name := "nextClear", desc := "(II)I" } : Jvm.MethodName)).before a0 Z = true := hw _ (List.mem_of_getElem? (i := 51) rfl)
theorem w52 {Z : State} {a0 : Array Value} (hw : ∀ d ∈ tables_1, d.before a0 Z = true) : (Jvm.Cond.instanceMethod ({ cls := "com/example/following_sibling/followingsibling/MarkedIndexes", name := "nextClear", desc := "(II)I" } : Jvm.MethodName)).before a0 Z = true := hw _ (List.mem_of_getElem? (i := 52) rfl)
theorem w53 {Z : State} {a0 : Array Value} (hw : ∀ d ∈ tables_1, d.before a0 Z = true) : (Jvm.Cond.privateMethod ({ cls := "com/example/following_sibling/followingsibling/MarkedIndexes", name := "nextClear", desc := "(II)I" } : Jvm.MethodName)).before a0 Z = true := hw _ (List.mem_of_getElem? (i := 53) rfl)
theorem w54 {Z : State} {a0 : Array Value} (hw : ∀ d ∈ tables_1, d.before a0 Z = true) : (Jvm.Cond.code ({ cls := "com/example/following_sibling/followingsibling/MarkedIndexes", name := "nextClear", desc := "(II)I" } : Jvm.MethodName) prog_62_method_7_code (7 : Nat) (Option.some Jvm.ClassFile.FieldType.int)).before a0 Z = true := hw _ (List.mem_of_getElem? (i := 54) rfl)
theorem w55 {Z : State} {a0 : Array Value} (hw : ∀ d ∈ tables_1, d.before a0 Z = true) : (Jvm.Cond.methodLink "com/example/following_sibling/followingsibling/MarkedIndexes" (36 : Nat) ({ cls := "java/lang/Long", name := "numberOfTrailingZeros", desc := "(J)I" } : Jvm.MethodName)).before a0 Z = true := hw _ (List.mem_of_getElem? (i := 55) rfl)
theorem w56 {Z : State} {a0 : Array Value} (hw : ∀ d ∈ tables_1, d.before a0 Z = true) : (Jvm.Cond.static ({ cls := "java/lang/Long", name := "numberOfTrailingZeros", desc := "(J)I" } : Jvm.MethodName)).before a0 Z = true := hw _ (List.mem_of_getElem? (i := 56) rfl)
theorem w57 {Z : State} {a0 : Array Value} (hw : ∀ d ∈ tables_1, d.before a0 Z = true) : (Jvm.Cond.initialized "java/lang/Long").before a0 Z = true := hw _ (List.mem_of_getElem? (i := 57) rfl)
theorem w58 {Z : State} {a0 : Array Value} (hw : ∀ d ∈ tables_1, d.before a0 Z = true) : (Jvm.Cond.code ({ cls := "java/lang/Long", name := "numberOfTrailingZeros", desc := "(J)I" } : Jvm.MethodName) jdk_35_method_49_code (3 : Nat) (Option.some Jvm.ClassFile.FieldType.int)).before a0 Z = true := hw _ (List.mem_of_getElem? (i := 58) rfl)
theorem w59 {Z : State} {a0 : Array Value} (hw : ∀ d ∈ tables_1, d.before a0 Z = true) : (Jvm.Cond.methodLink "java/lang/Long" (311 : Nat) ({ cls := "java/lang/Integer", name := "numberOfTrailingZeros", desc := "(I)I" } : Jvm.MethodName)).before a0 Z = true := hw _ (List.mem_of_getElem? (i := 59) rfl)
theorem w60 {Z : State} {a0 : Array Value} (hw : ∀ d ∈ tables_1, d.before a0 Z = true) : (Jvm.Cond.static ({ cls := "java/lang/Integer", name := "numberOfTrailingZeros", desc := "(I)I" } : Jvm.MethodName)).before a0 Z = true := hw _ (List.mem_of_getElem? (i := 60) rfl)
theorem w61 {Z : State} {a0 : Array Value} (hw : ∀ d ∈ tables_1, d.before a0 Z = true) : (Jvm.Cond.initialized "java/lang/Integer").before a0 Z = true := hw _ (List.mem_of_getElem? (i := 61) rfl)
theorem w62 {Z : State} {a0 : Array Value} (hw : ∀ d ∈ tables_1, d.before a0 Z = true) : (Jvm.Cond.code ({ cls := "java/lang/Integer", name := "numberOfTrailingZeros", desc := "(I)I" } : Jvm.MethodName) jdk_33_method_48_code (2 : Nat) (Option.some Jvm.ClassFile.FieldType.int)).before a0 Z = true := hw _ (List.mem_of_getElem? (i := 62) rfl)
theorem w63 {Z : State} {a0 : Array Value} (hw : ∀ d ∈ tables_1, d.before a0 Z = true) : (Jvm.Cond.constant "java/lang/Integer" (264 : Nat) (65536 : Int32)).before a0 Z = true := hw _ (List.mem_of_getElem? (i := 63) rfl)
theorem w64 {Z : State} {a0 : Array Value} (hw : ∀ d ∈ tables_1, d.before a0 Z = true) : (Jvm.Cond.methodLink "com/example/following_sibling/followingsibling/MarkedIndexesUnmarkPinLaw" (29 : Nat) ({ cls := "com/example/following_sibling/followingsibling/MarkedIndexesUnmarkPinLaw", name := "next", desc := "(IIIIII)I" } : Jvm.MethodName)).before a0 Z = true := hw _ (List.mem_of_getElem? (i := 64) rfl)
theorem w65 {Z : State} {a0 : Array Value} (hw : ∀ d ∈ tables_1, d.before a0 Z = true) : (Jvm.Cond.static ({ cls := "com/example/following_sibling/followingsibling/MarkedIndexesUnmarkPinLaw", name := "next", desc := "(IIIIII)I" } : Jvm.MethodName)).before a0 Z = true := hw _ (List.mem_of_getElem? (i := 65) rfl)
theorem w66 {Z : State} {a0 : Array Value} (hw : ∀ d ∈ tables_1, d.before a0 Z = true) : (Jvm.Cond.initialized "com/example/following_sibling/followingsibling/MarkedIndexesUnmarkPinLaw").before a0 Z = true := hw _ (List.mem_of_getElem? (i := 66) rfl)
theorem w67 {Z : State} {a0 : Array Value} (hw : ∀ d ∈ tables_1, d.before a0 Z = true) : (Jvm.Cond.code ({ cls := "com/example/following_sibling/followingsibling/MarkedIndexesUnmarkPinLaw", name := "next", desc := "(IIIIII)I" } : Jvm.MethodName) method_3_code (7 : Nat) (Option.some Jvm.ClassFile.FieldType.int)).before a0 Z = true := hw _ (List.mem_of_getElem? (i := 67) rfl)
theorem w68 {Z : State} {a0 : Array Value} (hw : ∀ d ∈ tables_1, d.before a0 Z = true) : (Jvm.Cond.methodLink "com/example/following_sibling/followingsibling/MarkedIndexesUnmarkPinLaw" (7 : Nat) ({ cls := "com/example/following_sibling/followingsibling/MarkedIndexesUnmarkPinLaw", name := "in", desc := "(IIIIII)Z" } : Jvm.MethodName)).before a0 Z = true := hw _ (List.mem_of_getElem? (i := 68) rfl)
theorem w69 {Z : State} {a0 : Array Value} (hw : ∀ d ∈ tables_1, d.before a0 Z = true) : (Jvm.Cond.static ({ cls := "com/example/following_sibling/followingsibling/MarkedIndexesUnmarkPinLaw", name := "in", desc := "(IIIIII)Z" } : Jvm.MethodName)).before a0 Z = true := hw _ (List.mem_of_getElem? (i := 69) rfl)
theorem w70 {Z : State} {a0 : Array Value} (hw : ∀ d ∈ tables_1, d.before a0 Z = true) : (Jvm.Cond.code ({ cls := "com/example/following_sibling/followingsibling/MarkedIndexesUnmarkPinLaw", name := "in", desc := "(IIIIII)Z" } : Jvm.MethodName) method_2_code (6 : Nat) (Option.some Jvm.ClassFile.FieldType.boolean)).before a0 Z = true := hw _ (List.mem_of_getElem? (i := 70) rfl)
theorem w71 {Z : State} {a0 : Array Value} (hw : ∀ d ∈ tables_1, d.before a0 Z = true) : (Jvm.Cond.constant "com/example/following_sibling/followingsibling/MarkedIndexesUnmarkPinLaw" (14 : Nat) (262143 : Int32)).before a0 Z = true := hw _ (List.mem_of_getElem? (i := 71) rfl)
open Jvm.Free.JM (Low low_ex ntz64 ntz32)
def own_mx (x z : Int32) : Int32 := if x < z then z else x
def own_mn (x z : Int32) : Int32 := if z < x then z else x
theorem own_div {p : Int32} {i : Nat} (h : p.toInt = (i : Int)) : (p / 64).toInt = ((i / 64 : Nat) : Int) := by
  have e := (c_idiv p 64 64 rfl (by decide)).1 (by omega)
  rw [e, h]; omega
theorem own_up {z : Int32} {N : Nat} (h : z.toInt = (N : Int)) (hN : N ≤ 100000) : (((z + 64) - 1) / 64).toInt = (((N + 63) / 64 : Nat) : Int) := by
  have e64 : (64 : Int32).toInt = 64 := rfl; have e1 : (1 : Int32).toInt = 1 := rfl
  have a1 : ((z + 64) - 1).toInt = ((N + 63 : Nat) : Int) := by
    have h1 := c_iadd z 64; have h2 := c_isub (z + 64) 1
    have h3 := rng32 (z + 64); have h4 := rng32 (z + 64 - 1)
    omega
  rw [own_div a1]
theorem own_m64 {z : Int32} {n : Nat} (h : z.toInt = (n : Int)) (hn : n ≤ 100000) : (z * 64).toInt = ((64 * n : Nat) : Int) := by
  have e64 : (64 : Int32).toInt = 64 := rfl
  have h1 := c_imul z 64; have h2 := rng32 (z * 64)
  rw [e64, h] at h1; omega
theorem own_add {a b : Int32} {x y : Nat} (ha : a.toInt = (x : Int)) (hb : b.toInt = (y : Int)) (hl : x + y ≤ 100000000) : (a + b).toInt = ((x + y : Nat) : Int) := by
  have h1 := c_iadd a b; have h2 := rng32 (a + b); omega
theorem own_ln {n N : Nat} {z : Int32} (hz : z.toInt = (N : Int)) (hl : n = N) : n.toInt32 = z := by
  have := Int32.toInt_lt z
  rw [n_eq, hz, hl]; exact o_ofNat (by omega)
theorem own_nl {n : Nat} (hn : n ≤ 100000) : (n.toInt32).toInt = (n : Int) := o_ofNat (by omega)
theorem own_lt1 {z : Int32} {N : Nat} (h : z.toInt = (N : Int)) (h1 : N ≤ 1) : ¬ 1 < z := by
  have e1 : (1 : Int32).toInt = 1 := rfl
  rw [n_lt, e1]; omega
theorem own_gt1 {z : Int32} {N : Nat} (h : z.toInt = (N : Int)) (h1 : 2 ≤ N) : 1 < z := by
  have e1 : (1 : Int32).toInt = 1 := rfl
  rw [n_lt, e1]; omega
theorem own_gN {p old : Int32} {i n : Nat} (hp : p.toInt = ((i + 1 : Nat) : Int)) (ho : old.toInt = ((64 * n : Nat) : Int)) (hi : i < 65536) (hn : n ≤ 130) (hg : 64 * n ≤ i) : ∃ N : Nat, (((own_mx p (2 * old) + 64) - 1) / 64).toInt = (N : Int) ∧ n < N ∧ i / 64 < N ∧ 1 ≤ N ∧ N ≤ 1024 ∧ (i < 4223 → N ≤ 130) := by
  have e2 : (2 : Int32).toInt = 2 := rfl
  have h2 : (2 * old).toInt = ((128 * n : Nat) : Int) := by
    have h1 := c_imul 2 old; have h2 := rng32 (2 * old)
    rw [e2, ho] at h1; omega
  by_cases c : p < 2 * old
  · have e : own_mx p (2 * old) = 2 * old := by rw [own_mx, if_pos c]
    rw [n_lt, hp, h2] at c
    exact ⟨_, by rw [e]; exact own_up h2 (by omega), by omega, by omega, by omega, by omega, by omega⟩
  · have e : own_mx p (2 * old) = p := by rw [own_mx, if_neg c]
    rw [n_lt, hp, h2] at c
    exact ⟨_, by rw [e]; exact own_up hp (by omega), by omega, by omega, by omega, by omega, by omega⟩
theorem own_inw {p z : Int32} {i n : Nat} (hp : p.toInt = (i : Int)) (hz : z.toInt = ((64 * n : Nat) : Int)) : (p < z ↔ i / 64 < n) := by
  rw [n_lt, hp, hz]; omega
theorem own_inx {p z : Int32} {i n : Nat} (hp : p.toInt = (i : Int)) (hz : z.toInt = (n : Int)) : (p < z ↔ i < n) := by
  rw [n_lt, hp, hz]; omega

def own_bit (ws : List Int64) (j : Nat) : Bool := (ws.getD (j / 64) 0).toBitVec.getLsbD (j % 64)
theorem own_sh (x : Int64) (p : Int32) (i : Nat) (h : p.toInt = (i : Int)) : (x <<< (p.toInt64 &&& 63)).toBitVec = x.toBitVec <<< (i % 64) := by
  have hn : (p.toInt64 &&& 63).toBitVec.toNat = i % 64 := by
    show (p.toInt64.toBitVec &&& (63 : Int64).toBitVec).toNat = _
    rw [BitVec.toNat_and, show (63 : Int64).toBitVec.toNat = 2 ^ 6 - 1 from rfl, Nat.and_two_pow_sub_one_eq_mod]
    have e1 : p.toInt64.toInt = (i : Int) := by rw [Int32.toInt_toInt64, h]
    have e2 : p.toInt64.toBitVec.toInt = (i : Int) := e1
    have lt := Int32.toInt_lt p
    rw [BitVec.toInt_eq_toNat_cond] at e2
    have il := p.toInt64.toBitVec.isLt
    split at e2 <;> omega
  show x.toBitVec <<< ((p.toInt64 &&& 63).toBitVec.smod 64) = _
  have hs : (p.toInt64 &&& 63).toBitVec.smod 64 = (p.toInt64 &&& 63).toBitVec := by
    rw [BitVec.smod_eq]
    have m1 : (p.toInt64 &&& 63).toBitVec.msb = false := by
      rw [BitVec.msb_eq_false_iff_two_mul_lt, hn]; omega
    have m2 : (64 : BitVec 64).msb = false := by decide
    rw [m1, m2]
    simp only []
    apply BitVec.eq_of_toNat_eq
    show ((p.toInt64 &&& 63).toBitVec % 64).toNat = _
    rw [BitVec.toNat_umod, hn]
    have : (64 : BitVec 64).toNat = 64 := rfl
    rw [this]; omega
  rw [hs, BitVec.shiftLeft_eq', hn]
theorem own_get {ws : List Int64} {k : Nat} (h : k < ws.length) : (ws.map Value.long)[k]? = some (.long (ws.getD k 0)) := by
  rw [List.getElem?_map, List.getElem?_eq_getElem h, List.getD_eq_getElem?_getD, List.getElem?_eq_getElem h]; rfl
theorem own_bset {ws : List Int64} {k : Nat} (h : k < ws.length) (v : Int64) (j : Nat) : own_bit (ws.set k v) j = if j / 64 = k then v.toBitVec.getLsbD (j % 64) else own_bit ws j := by
  simp only [own_bit, List.getD_eq_getElem?_getD, List.getElem?_set]
  by_cases c : k = j / 64
  · rw [if_pos c, if_pos (by omega), if_pos c.symm]; rfl
  · rw [if_neg c, if_neg (fun q => c q.symm)]
theorem own_one {p : Int32} {i : Nat} (hp : p.toInt = (i : Int)) (t : Nat) (ht : t < 64) : ((1 : Int64) <<< (p.toInt64 &&& 63)).toBitVec.getLsbD t = decide (t = i % 64) := by
  rw [own_sh 1 p i hp]
  have e : (1 : Int64).toBitVec = 1#64 := rfl
  rw [e, BitVec.getLsbD_shiftLeft, BitVec.getLsbD_one]
  by_cases c : t = i % 64
  · simp [c]; omega
  · by_cases d : t < i % 64
    · simp [d, c]
    · have : t - i % 64 ≠ 0 := by omega
      simp [this, c]
theorem own_or {ws : List Int64} {p : Int32} {i : Nat} (hp : p.toInt = (i : Int)) (hi : i / 64 < ws.length) (j : Nat) :
    own_bit (ws.set (i / 64) (ws.getD (i / 64) 0 ||| (1 : Int64) <<< (p.toInt64 &&& 63))) j = (own_bit ws j || decide (j = i)) := by
  rw [own_bset hi]
  by_cases c : j / 64 = i / 64
  · rw [if_pos c]
    show (BitVec.getLsbD ((ws.getD (i / 64) 0).toBitVec ||| ((1 : Int64) <<< (p.toInt64 &&& 63)).toBitVec) (j % 64)) = _
    rw [BitVec.getLsbD_or, own_one hp _ (by omega)]
    simp only [own_bit, c]
    have : (j % 64 = i % 64) ↔ (j = i) := by omega
    simp [this]
  · rw [if_neg c]
    have : j ≠ i := by rintro rfl; exact c rfl
    simp [this]
theorem own_andn {ws : List Int64} {p : Int32} {i : Nat} (hp : p.toInt = (i : Int)) (hi : i / 64 < ws.length) (j : Nat) :
    own_bit (ws.set (i / 64) (ws.getD (i / 64) 0 &&& ((1 : Int64) <<< (p.toInt64 &&& 63) ^^^ (-1 : Int64)))) j = (own_bit ws j && !decide (j = i)) := by
  rw [own_bset hi]
  by_cases c : j / 64 = i / 64
  · rw [if_pos c]
    show (BitVec.getLsbD ((ws.getD (i / 64) 0).toBitVec &&& (((1 : Int64) <<< (p.toInt64 &&& 63)).toBitVec ^^^ (-1 : Int64).toBitVec)) (j % 64)) = _
    have e : (-1 : Int64).toBitVec = BitVec.allOnes 64 := by decide
    rw [BitVec.getLsbD_and, BitVec.getLsbD_xor, own_one hp _ (by omega), e, BitVec.getLsbD_allOnes]
    simp only [own_bit, c]
    have : (j % 64 = i % 64) ↔ (j = i) := by omega
    have l : j % 64 < 64 := by omega
    simp [this, l]
  · rw [if_neg c]
    have : j ≠ i := by rintro rfl; exact c rfl
    simp [this]
def own_sub (ws : List Int64) (a b c : Nat) : Prop := ∀ j, own_bit ws j = true → j = a ∨ j = b ∨ j = c
theorem own_full {ws : List Int64} {a b c : Nat} (h : own_sub ws a b c) (k : Nat) : ¬ ws.getD k 0 = -1 := by
  intro e
  have q : ∀ t, t < 4 → own_bit ws (64 * k + t) = true := by
    intro t ht
    have e1 : (64 * k + t) / 64 = k := by omega
    have e2 : (64 * k + t) % 64 = t := by omega
    simp only [own_bit, e1, e2, e]
    have e3 : (-1 : Int64).toBitVec = BitVec.allOnes 64 := by decide
    rw [e3, BitVec.getLsbD_allOnes]; simp; omega
  have q0 := h _ (q 0 (by omega)); have q1 := h _ (q 1 (by omega)); have q2 := h _ (q 2 (by omega)); have q3 := h _ (q 3 (by omega))
  omega
def own_next (P : Nat → Prop) (x m : Nat) : Prop := x ≤ m ∧ ¬ P m ∧ ∀ j, x ≤ j → j < m → P j
theorem own_next_u {P : Nat → Prop} {x m m' : Nat} (h : own_next P x m) (h' : own_next P x m') : m = m' := by
  obtain ⟨a1, a2, a3⟩ := h; obtain ⟨b1, b2, b3⟩ := h'
  rcases Nat.lt_trichotomy m m' with q | q | q
  · exact absurd (b3 m a1 q) a2
  · exact q
  · exact absurd (a3 m' b1 q) b2
def own_v (w : Int64) (p : Int32) : Int64 := (w ^^^ (-1 : Int64)) &&& ((-1 : Int64) <<< (p.toInt64 &&& 63))
theorem own_not (w : Int64) (t : Nat) (ht : t < 64) : (w ^^^ (-1 : Int64)).toBitVec.getLsbD t = !w.toBitVec.getLsbD t := by
  show (w.toBitVec ^^^ (-1 : Int64).toBitVec).getLsbD t = _
  have e : (-1 : Int64).toBitVec = BitVec.allOnes 64 := by decide
  rw [BitVec.getLsbD_xor, e, BitVec.getLsbD_allOnes]; simp [ht]
theorem own_vb {w : Int64} {p : Int32} {i : Nat} (hp : p.toInt = (i : Int)) (t : Nat) (ht : t < 64) : (own_v w p).toBitVec.getLsbD t = (!w.toBitVec.getLsbD t && decide (i % 64 ≤ t)) := by
  show (((w ^^^ (-1 : Int64)).toBitVec) &&& ((-1 : Int64) <<< (p.toInt64 &&& 63)).toBitVec).getLsbD t = _
  have e : (-1 : Int64).toBitVec = BitVec.allOnes 64 := by decide
  rw [BitVec.getLsbD_and, own_not w t ht, own_sh _ p i hp, e, BitVec.getLsbD_shiftLeft, BitVec.getLsbD_allOnes]
  have e2 : t - i % 64 < 64 := by omega
  by_cases c : i % 64 ≤ t
  · simp [ht, c, e2]
  · simp [c]
theorem own_zero {x : Int64} (h : ¬ x = 0) : ∃ t, t < 64 ∧ Low x.toBitVec.toNat t := by
  have h1 : x.toBitVec.toNat ≠ 0 := by
    intro q; apply h; apply Int64.toBitVec_inj.mp; apply BitVec.eq_of_toNat_eq; rw [q]; rfl
  obtain ⟨t, ht⟩ := low_ex _ h1
  exact ⟨t, ht.lt x.toBitVec.isLt, ht⟩
abbrev own_P (ws : List Int64) : Nat → Prop := fun j => own_bit ws j = true
theorem own_pt {ws : List Int64} {k t : Nat} (ht : t < 64) : own_bit ws (64 * k + t) = (ws.getD k 0).toBitVec.getLsbD t := by
  have e1 : (64 * k + t) / 64 = k := by omega
  have e2 : (64 * k + t) % 64 = t := by omega
  simp only [own_bit, e1, e2]
theorem own_n1 {ws : List Int64} {p : Int32} {x t : Nat} (hp : p.toInt = (x : Int)) (hl : Low (own_v (ws.getD (x / 64) 0) p).toBitVec.toNat t) (ht : t < 64) : own_next (own_P ws) x (64 * (x / 64) + t) := by
  have hat := hl.at
  have h1 := own_vb (w := ws.getD (x / 64) 0) hp t ht
  rw [BitVec.getLsbD, hat] at h1
  have h2 : (ws.getD (x / 64) 0).toBitVec.getLsbD t = false ∧ x % 64 ≤ t := by simpa using h1.symm
  refine ⟨by omega, ?_, ?_⟩
  · show ¬ own_bit ws _ = true
    rw [own_pt ht, h2.1]; simp
  · intro j hj1 hj2
    have hk : j / 64 = x / 64 := by omega
    have hb := hl.below (j := j % 64) (by omega)
    have h3 := own_vb (w := ws.getD (x / 64) 0) hp (j % 64) (by omega)
    rw [BitVec.getLsbD, hb] at h3
    show own_bit ws j = true
    simp only [own_bit, hk]
    have c : x % 64 ≤ j % 64 := by omega
    simpa [c] using h3
theorem own_v0 {ws : List Int64} {p : Int32} {x : Nat} (hp : p.toInt = (x : Int)) (h : own_v (ws.getD (x / 64) 0) p = 0) (j : Nat) (h1 : x ≤ j) (h2 : j < 64 * (x / 64) + 64) : own_bit ws j = true := by
  have hk : j / 64 = x / 64 := by omega
  have h3 := own_vb (w := ws.getD (x / 64) 0) hp (j % 64) (by omega)
  rw [h] at h3
  have e0 : ((0 : Int64).toBitVec).getLsbD (j % 64) = false := by
    have : (0 : Int64).toBitVec = 0#64 := rfl
    rw [this]; simp
  rw [e0] at h3
  simp only [own_bit, hk]
  have c : x % 64 ≤ j % 64 := by omega
  simpa [c] using h3
theorem own_out {ws : List Int64} {j : Nat} (h : ws.length ≤ j / 64) : own_bit ws j = false := by
  have e : ws.getD (j / 64) 0 = 0 := by rw [List.getD_eq_getElem?_getD, List.getElem?_eq_none h]; rfl
  have : (0 : Int64).toBitVec = 0#64 := rfl
  simp only [own_bit, e, this]; simp
theorem own_n0 {ws : List Int64} {x : Nat} (h : ws.length ≤ x / 64) : own_next (own_P ws) x x := ⟨Nat.le_refl _, by show ¬ own_bit ws x = true; rw [own_out h]; simp, fun j h1 h2 => by omega⟩
theorem own_n2 {ws : List Int64} {p : Int32} {x : Nat} (hp : p.toInt = (x : Int)) (h : own_v (ws.getD (x / 64) 0) p = 0) (hl : x / 64 + 1 = ws.length) : own_next (own_P ws) x (64 * ws.length) :=
  ⟨by omega, by show ¬ own_bit ws _ = true; rw [own_out (by omega)]; simp, fun j h1 h2 => own_v0 hp h j h1 (by omega)⟩
theorem own_n3 {ws : List Int64} {p : Int32} {x t : Nat} (hp : p.toInt = (x : Int)) (h : own_v (ws.getD (x / 64) 0) p = 0) (hl : Low (ws.getD (x / 64 + 1) 0 ^^^ (-1 : Int64)).toBitVec.toNat t) (ht : t < 64) : own_next (own_P ws) x (64 * (x / 64 + 1) + t) := by
  have hat := hl.at
  have h1 := own_not (ws.getD (x / 64 + 1) 0) t ht
  rw [BitVec.getLsbD, hat] at h1
  have h2 : (ws.getD (x / 64 + 1) 0).toBitVec.getLsbD t = false := by simpa using h1.symm
  refine ⟨by omega, ?_, ?_⟩
  · show ¬ own_bit ws _ = true
    rw [own_pt ht, h2]; simp
  · intro j hj1 hj2
    by_cases c : j < 64 * (x / 64) + 64
    · exact own_v0 hp h j hj1 c
    · have hk : j / 64 = x / 64 + 1 := by omega
      have hb := hl.below (j := j % 64) (by omega)
      have h3 := own_not (ws.getD (x / 64 + 1) 0) (j % 64) (by omega)
      rw [BitVec.getLsbD, hb] at h3
      show own_bit ws j = true
      simp only [own_bit, hk]
      simpa using h3
theorem own_app {ws : List Int64} (n : Nat) (j : Nat) : own_bit (ws ++ List.replicate n 0) j = own_bit ws j := by
  by_cases c : j / 64 < ws.length
  · simp only [own_bit, List.getD_eq_getElem?_getD, List.getElem?_append_left c]
  · rw [own_out (ws := ws) (by omega)]
    have e : (ws ++ List.replicate n (0 : Int64)).getD (j / 64) 0 = 0 := by
      rw [List.getD_eq_getElem?_getD, List.getElem?_append_right (by omega), List.getElem?_replicate]
      split <;> rfl
    have z : (0 : Int64).toBitVec = 0#64 := rfl
    simp only [own_bit, e, z]; simp
theorem own_nil (j : Nat) : own_bit [] j = false := own_out (by simp)

def own_in (i a b c u k : Int32) : Prop := ¬ i = u ∧ ((¬ (k &&& 1) = 0 ∧ i = a) ∨ (¬ (k &&& 2) = 0 ∧ i = b) ∨ (¬ (k &&& 4) = 0 ∧ i = c))
instance (i a b c u k : Int32) : Decidable (own_in i a b c u k) := inferInstanceAs (Decidable (_ ∧ _))
def own_inv (i a b c u k : Int32) : Int32 := if own_in i a b c u k then 1 else 0
theorem own_inv0 {i a b c u k : Int32} (h : own_inv i a b c u k = 0) : ¬ own_in i a b c u k := fun q => by rw [own_inv, if_pos q] at h; exact absurd h (by decide)
theorem own_inv1 {i a b c u k : Int32} (h : ¬ own_inv i a b c u k = 0) : own_in i a b c u k := by
  by_cases q : own_in i a b c u k
  · exact q
  · rw [own_inv, if_neg q] at h; exact absurd rfl h
def own_nr (P : Int32 → Prop) (x r : Int32) : Prop := (¬ P x ∧ r = x) ∨ (P x ∧ ¬ P (x + 1) ∧ r = x + 1) ∨ (P x ∧ P (x + 1) ∧ ¬ P (x + 1 + 1) ∧ r = x + 1 + 1) ∨ (P x ∧ P (x + 1) ∧ P (x + 1 + 1) ∧ r = x + 1 + 1 + 1)
def own_PN (A B C U : Nat) (s1 s2 s3 : Prop) (j : Nat) : Prop := ¬ j = U ∧ ((s1 ∧ j = A) ∨ (s2 ∧ j = B) ∨ (s3 ∧ j = C))
theorem own_eqN {a b : Int32} {A B : Nat} (ha : a.toInt = (A : Int)) (hb : b.toInt = (B : Int)) : a = b ↔ A = B := by rw [n_eq, ha, hb]; omega
theorem own_in_iff {i a b c u k : Int32} {I A B C U : Nat} (hi : i.toInt = (I : Int)) (ha : a.toInt = (A : Int)) (hb : b.toInt = (B : Int)) (hc : c.toInt = (C : Int)) (hu : u.toInt = (U : Int)) :
    own_in i a b c u k ↔ own_PN A B C U (¬ (k &&& 1) = 0) (¬ (k &&& 2) = 0) (¬ (k &&& 4) = 0) I := by
  simp only [own_in, own_PN, own_eqN hi ha, own_eqN hi hb, own_eqN hi hc, own_eqN hi hu]
theorem own_p1 {x : Int32} {X : Nat} (hx : x.toInt = (X : Int)) (hl : X ≤ 1000000) : (x + 1).toInt = ((X + 1 : Nat) : Int) := by
  have h1 := c_iadd x 1; have h2 := rng32 (x + 1); have e1 : (1 : Int32).toInt = 1 := rfl; omega
theorem own_nrN {x r a b c u k : Int32} {X A B C U : Nat} (h : own_nr (fun y => own_in y a b c u k) x r) (hx : x.toInt = (X : Int)) (hl : X ≤ 900000) (ha : a.toInt = (A : Int)) (hb : b.toInt = (B : Int)) (hc : c.toInt = (C : Int)) (hu : u.toInt = (U : Int)) :
    ∃ R : Nat, r.toInt = (R : Int) ∧ own_next (own_PN A B C U (¬ (k &&& 1) = 0) (¬ (k &&& 2) = 0) (¬ (k &&& 4) = 0)) X R := by
  have h1 := own_p1 hx (by omega); have h2 := own_p1 h1 (by omega); have h3 := own_p1 h2 (by omega)
  simp only [own_nr, own_in_iff hx ha hb hc hu, own_in_iff h1 ha hb hc hu, own_in_iff h2 ha hb hc hu] at h
  rcases h with ⟨q, rfl⟩ | ⟨q0, q, rfl⟩ | ⟨q0, q1, q, rfl⟩ | ⟨q0, q1, q2, rfl⟩
  · exact ⟨X, hx, Nat.le_refl _, q, fun j a b => by omega⟩
  · refine ⟨X + 1, h1, by omega, q, fun j a b => ?_⟩
    have : j = X := by omega
    subst this; exact q0
  · refine ⟨X + 1 + 1, h2, by omega, q, fun j a b => ?_⟩
    have : j = X ∨ j = X + 1 := by omega
    rcases this with rfl | rfl
    · exact q0
    · exact q1
  · refine ⟨X + 1 + 1 + 1, h3, by omega, ?_, fun j a b => ?_⟩
    · intro q
      simp only [own_PN] at q0 q1 q2 q
      omega
    · have : j = X ∨ j = X + 1 ∨ j = X + 1 + 1 := by omega
      rcases this with rfl | rfl | rfl
      · exact q0
      · exact q1
      · exact q2
theorem own_same {ws : List Int64} {x r r' a b c u k : Int32} {X A B C U : Nat} (hb' : ∀ j, own_bit ws j = true ↔ own_PN A B C U (¬ (k &&& 1) = 0) (¬ (k &&& 2) = 0) (¬ (k &&& 4) = 0) j) (h : own_nr (fun y => own_in y a b c u k) x r) (hx : x.toInt = (X : Int)) (hl : X ≤ 900000) (ha : a.toInt = (A : Int)) (hb : b.toInt = (B : Int)) (hc : c.toInt = (C : Int)) (hu : u.toInt = (U : Int))
    (h' : ∃ m : Nat, r'.toInt = (m : Int) ∧ own_next (own_P ws) X m) : r' = r := by
  obtain ⟨R, e1, n1⟩ := own_nrN h hx hl ha hb hc hu
  obtain ⟨m, e2, n2⟩ := h'
  have n3 : own_next (own_PN A B C U (¬ (k &&& 1) = 0) (¬ (k &&& 2) = 0) (¬ (k &&& 4) = 0)) X m := ⟨n2.1, fun q => n2.2.1 ((hb' m).mpr q), fun j a b => (hb' j).mp (n2.2.2 j a b)⟩
  have := own_next_u n1 n3
  rw [n_eq, e1, e2, this]
def own_st (ws : List Int64) (A B C : Nat) (s1 s2 s3 : Prop) : Prop := ∀ j, own_bit ws j = true ↔ ((s1 ∧ j = A) ∨ (s2 ∧ j = B) ∨ (s3 ∧ j = C))
theorem own_st0 {A B C : Nat} : own_st [] A B C False False False := fun j => by rw [own_nil]; simp
theorem own_st.sub {ws : List Int64} {A B C : Nat} {s1 s2 s3 : Prop} (h : own_st ws A B C s1 s2 s3) : own_sub ws A B C := fun j q => by
  rcases (h j).mp q with q | q | q
  · exact Or.inl q.2
  · exact Or.inr (Or.inl q.2)
  · exact Or.inr (Or.inr q.2)
theorem own_s1 {ws ws2 : List Int64} {A B C : Nat} {s1 : Prop} (h : own_st ws A B C False False False) (hb : ∀ j, own_bit ws2 j = (own_bit ws j || decide (j = A))) (hk : s1) : own_st ws2 A B C s1 False False := fun j => by
  have q := h j; rw [hb j]; simp [q, hk]
theorem own_s1n {ws : List Int64} {A B C : Nat} {s1 : Prop} (h : own_st ws A B C False False False) (hk : ¬ s1) : own_st ws A B C s1 False False := fun j => by
  have q := h j; simp [q, hk]
theorem own_s2 {ws ws2 : List Int64} {A B C : Nat} {s1 s2 : Prop} (h : own_st ws A B C s1 False False) (hb : ∀ j, own_bit ws2 j = (own_bit ws j || decide (j = B))) (hk : s2) : own_st ws2 A B C s1 s2 False := fun j => by
  have q := h j; rw [hb j]; simp [q, hk]
theorem own_s2n {ws : List Int64} {A B C : Nat} {s1 s2 : Prop} (h : own_st ws A B C s1 False False) (hk : ¬ s2) : own_st ws A B C s1 s2 False := fun j => by
  have q := h j; simp [q, hk]
theorem own_s3 {ws ws2 : List Int64} {A B C : Nat} {s1 s2 s3 : Prop} (h : own_st ws A B C s1 s2 False) (hb : ∀ j, own_bit ws2 j = (own_bit ws j || decide (j = C))) (hk : s3) : own_st ws2 A B C s1 s2 s3 := fun j => by
  have q := h j; rw [hb j]; simp [q, hk, or_assoc]
theorem own_s3n {ws : List Int64} {A B C : Nat} {s1 s2 s3 : Prop} (h : own_st ws A B C s1 s2 False) (hk : ¬ s3) : own_st ws A B C s1 s2 s3 := fun j => by
  have q := h j; simp [q, hk]
theorem own_fin {ws ws2 : List Int64} {A B C U : Nat} {s1 s2 s3 : Prop} (h : own_st ws A B C s1 s2 s3) (hb : ∀ j, own_bit ws2 j = (own_bit ws j && !decide (j = U))) (j : Nat) : own_bit ws2 j = true ↔ own_PN A B C U s1 s2 s3 j := by
  have q := h j; rw [hb j]; simp only [own_PN, ← q]; simp [and_comm]
theorem own_fin2 {ws ws2 : List Int64} {A B C U : Nat} {s1 s2 s3 : Prop} (h : ∀ j, own_bit ws j = true ↔ own_PN A B C U s1 s2 s3 j) (hb : ∀ j, own_bit ws2 j = (own_bit ws j && !decide (j = U))) (j : Nat) : own_bit ws2 j = true ↔ own_PN A B C U s1 s2 s3 j := by
  have q := h j; rw [hb j]; rw [← q]; simp
  intro hq; exact (q.mp hq).1
theorem own_PN.sub {ws : List Int64} {A B C U : Nat} {s1 s2 s3 : Prop} (h : ∀ j, own_bit ws j = true ↔ own_PN A B C U s1 s2 s3 j) : own_sub ws A B C := fun j q => by
  rcases ((h j).mp q).2 with q | q | q
  · exact Or.inl q.2
  · exact Or.inr (Or.inl q.2)
  · exact Or.inr (Or.inr q.2)
theorem own_fullv {ws : List Int64} {k : Nat} {v : Int64} {a b c : Nat} (hk : k < ws.length) (h : own_sub (ws.set k v) a b c) : ¬ v = -1 := by
  have q := own_full h k
  have e : (ws.set k v).getD k 0 = v := by rw [List.getD_eq_getElem?_getD, List.getElem?_set_self hk]; rfl
  rw [e] at q; exact q
theorem own_subm {ws : List Int64} {p : Int32} {i a b c : Nat} (hp : p.toInt = (i : Int)) (hi : i / 64 < ws.length) (h : own_sub ws a b c) (ha : i = a ∨ i = b ∨ i = c) : own_sub (ws.set (i / 64) (ws.getD (i / 64) 0 ||| (1 : Int64) <<< (p.toInt64 &&& 63))) a b c := fun j q => by
  rw [own_or hp hi] at q
  simp at q
  rcases q with q | q
  · exact h j q
  · rw [q]; exact ha
theorem own_subn {ws : List Int64} {p : Int32} {i a b c : Nat} (hp : p.toInt = (i : Int)) (hi : i / 64 < ws.length) (h : own_sub ws a b c) : own_sub (ws.set (i / 64) (ws.getD (i / 64) 0 &&& ((1 : Int64) <<< (p.toInt64 &&& 63) ^^^ (-1 : Int64)))) a b c := fun j q => by
  rw [own_andn hp hi] at q
  simp at q
  exact h j q.1
theorem own_l1z {p : Int32} {y : Nat} (hp : p.toInt = (y : Int)) : Low (own_v 0 p).toBitVec.toNat (y % 64) := by
  have h0 : ¬ own_v 0 p = 0 := by
    intro e
    have h1 := own_vb (w := 0) hp (y % 64) (by omega)
    rw [e] at h1
    have z : (0 : Int64).toBitVec = 0#64 := rfl
    rw [z] at h1; simp at h1
  obtain ⟨t, ht, hl⟩ := own_zero h0
  have z : (0 : Int64).toBitVec = 0#64 := rfl
  have h1 := own_vb (w := 0) hp t ht
  rw [BitVec.getLsbD, hl.at, z] at h1
  have h2 : y % 64 ≤ t := by simpa using h1.symm
  by_cases c : y % 64 < t
  · have h3 := own_vb (w := 0) hp (y % 64) (by omega)
    rw [BitVec.getLsbD, hl.below c, z] at h3
    simp at h3
  · have : t = y % 64 := by omega
    rw [← this]; exact hl
theorem own_l1n {p : Int32} {y : Nat} (hp : p.toInt = (y : Int)) : ¬ own_v 0 p = 0 := by
  intro e
  have q := (own_l1z hp).at
  rw [e] at q; simp at q
theorem own_xn {w : Int64} (h : ¬ w = -1) : ¬ (w ^^^ (-1 : Int64)) = 0 := by
  intro e; apply h
  have e2 : (w ^^^ (-1 : Int64)) ^^^ (-1 : Int64) = 0 ^^^ (-1 : Int64) := by rw [e]
  simpa [Int64.xor_assoc] using e2
theorem own_rep {n k : Nat} (h : k < n) : ((List.replicate n (0 : Int64)).map Value.long)[k]? = some (.long 0) := by simp [h]

section Own2
variable {p : Program} {l : Launch} {e : Env} {R : Room} {s : State} {m : MethodId} {args : Array Value} {below : List Frame} {meth : Method} {c : Code} {T : State} {Z : State} {h : Heap} {n0 kc ks cells slots ml pc pc' pt : Nat} {Q : Option Value → Heap → Prop} {bc : ByteArray} {y : MethodName} {rt : Option FieldType} {L L' : Array Slot} {S : List Value} {a0 : Array Value}
theorem o_aaload (H : oH p l e R s m args below meth c bc ml y rt Z n0 T h cells slots) {a : Addr} {j : Int32} {vs : List Value} {ty : FieldType} (i : Nat) (v : Value) (A : oA ty Z h a vs) (hty : ty.isReference = true) (h0 : j.toInt = (i : Int)) (hv : vs[i]? = some v) (hd : decode bc pc = .ok (.aaload, 1)) (hp : pc + 1 = pc') (k : oG p e below s n0 kc ks Q (T.setTop (mkF m pc' L (v :: S)))) : oG p e below s n0 kc ks Q (T.setTop (mkF m pc L (.int j :: .ref a :: S))) := by
  obtain ⟨-, cl, A, r⟩ := A
  exact o_aaloadC H v A hty (o_inb r h0 (o_lt_of hv)) (o_elt r h0 hv) hd hp k
theorem o_ldcWI (H : oH p l e R s m args below meth c bc ml y rt Z n0 T h cells slots) {i : Nat} (v : Int32) (w : (Jvm.Cond.constant y.cls i v).before a0 Z = true) (hd : decode bc pc = .ok (.ldc_w i, 3)) (hp : pc + 3 = pc') (k : oG p e below s n0 kc ks Q (T.setTop (mkF m pc' L (.int v :: S)))) : oG p e below s n0 kc ks Q (T.setTop (mkF m pc L S)) := by
  obtain ⟨locs, X, eT, N, hx, hby, hml, hZ, hown, hnm, hret, hlk, hn⟩ := H
  subst hp
  exact oG.go (X.ldcWInt hx hown (mvT hZ w) (g := mkF m pc L S) rfl (hb hby hd)) k
def oV (Z : State) (h : Heap) (a : Addr) : Prop := ∃ cl : Cell, Arr Z h a cl (.array .long) ∧ OvrA Z cl.cls .long "[J"
theorem oV.ext {h' : Heap} {a : Addr} (O : oV Z h a) (E : Ext h h') : oV Z h' a := by
  obtain ⟨cl, A, q⟩ := O; exact ⟨cl, A.ext E, q⟩
theorem oV.wr {h' : Heap} {a b : Addr} {sl : Nat} {v : Value} (O : oV Z h a) (W : Wr h h' b sl v) : oV Z h' a := by
  obtain ⟨cl, A, q⟩ := O
  by_cases e : a = b
  · subst e; exact ⟨_, A.same W, q⟩
  · exact ⟨cl, A.other W e, q⟩
theorem o_anewarr (H : oH p l e R s m args below meth c bc ml y rt Z n0 T h cells slots) {i : Nat} {z : Int32} (cap n : Nat) (w1 : (Jvm.Cond.classLink y.cls i "[J").before a0 Z = true) (w2 : (Jvm.Cond.arrayOver (.array .long)).before a0 Z = true) (hz : z.toInt = (n : Int)) (hcap : n ≤ cap) (hb8 : cap * 8 ≤ 536870912) (hd : decode bc pc = .ok (.anewarray i, 3)) (hp : pc + 3 = pc') (hc : cells + 1 ≤ R.cells) (hl : slots + cap ≤ R.slots)
    (k : ∀ (T' : State) (h' : Heap) (a : Addr), a = h.size → oH p l e R s m args below meth c bc ml y rt Z n0 T' h' (cells + 1) (slots + cap) → Ext h h' → oA (.array .long) Z h' a (List.replicate n .null) → oV Z h' a → oG p e below s n0 kc ks Q (T'.setTop (mkF m pc' L (.ref a :: S)))) : oG p e below s n0 kc ks Q (T.setTop (mkF m pc L (.int z :: S))) := by
  obtain ⟨locs, X, eT, N, hx, hby, hml, hZ, hown, hnm, hret, hlk, hn⟩ := H
  subst hp
  have e0 : (0 : Int32).toInt = 0 := rfl
  obtain ⟨T', h', cA, X', e', E, A, EE, O, st⟩ := newRA X hx hZ hown (C := "[J") (ty := .long) (by decide) w1 w2 eT (g := mkF m pc L (.int z :: S)) rfl (hb hby hd) rfl (by rw [Int32.lt_iff_toInt_lt, e0]; omega) (cap := cap) (by simp only [Int32.toNatClampNeg]; omega) hb8 hc hl (ad := "[[J") (by decide)
  refine oG.go st (k T' h' _ rfl ⟨locs, X', e', N, hx, hby, hml, hZ, hown, hnm, hret, hlk, hn⟩ E ⟨?_, _, A, ?_⟩ ⟨_, A, O⟩)
  · have := Int32.toInt_lt z
    rw [List.length_replicate]; omega
  · show Array.replicate z.toNatClampNeg _ = _
    rw [o_nat hz, ← List.toArray_replicate]; rfl
theorem o_aastore (H : oH p l e R s m args below meth c bc ml y rt Z n0 T h cells slots) {a b : Addr} {j : Int32} {vs : List Value} (i : Nat) (A : oA (.array .long) Z h a vs) (O : oV Z h a) (I : Ins Z h b "[J" true) (h0 : j.toInt = (i : Int)) (h1 : i < vs.length) (ha : n0 ≤ a) (hd : decode bc pc = .ok (.aastore, 1)) (hp : pc + 1 = pc')
    (k : ∀ (T' : State) (h' : Heap), oH p l e R s m args below meth c bc ml y rt Z n0 T' h' cells slots → Wr h h' a i (.ref b) → oA (.array .long) Z h' a (vs.set i (.ref b)) → oG p e below s n0 kc ks Q (T'.setTop (mkF m pc' L S))) : oG p e below s n0 kc ks Q (T.setTop (mkF m pc L (.ref b :: .int j :: .ref a :: S))) := by
  obtain ⟨locs, X, eT, N, hx, hby, hml, hZ, hown, hnm, hret, hlk, hn⟩ := H
  subst hp
  have A' := A
  obtain ⟨-, cl, A, r⟩ := A
  obtain ⟨cl2, A2, O2⟩ := O
  obtain ⟨T', h', X', e', W, st⟩ := stR X hx hZ eT A (j := j) (v := .ref b) (o_inb r h0 h1) rfl (Sto.ofVA A2 rfl O2 I) (g := mkF m pc L (.ref b :: .int j :: .ref a :: S)) rfl rfl (hb hby hd)
  have en := o_nat h0
  have W2 : Wr h h' a i _ := en ▸ W
  exact oG.go st (k T' h' ⟨_, X', e', Fr.snoc X' N ha, hx, hby, hml, hZ, hown, hnm, hret, hlk, hn⟩ W2 (A'.same W2))
theorem o_arv {a : Addr} {us : List Int64} {z : Int32} (A : oA .long Z h a (us.map Value.long)) (hz : z.toInt = (us.length : Int)) : ∃ k, Arv Z h a k .long z (us.map Value.long) (.long 0) := by
  obtain ⟨q, cl, A, r⟩ := A
  have sz : cl.slots.size = us.length := by rw [r]; simp
  have e0 : (0 : Int32).toInt = 0 := rfl
  refine ⟨cl.cls, cl, A, rfl, by rw [sz, o_nat hz], by rw [Int32.lt_iff_toInt_lt, e0]; omega, ?_, ?_⟩
  · intro k hk
    rw [r, List.getD_eq_getElem?_getD]
    rw [sz] at hk
    simp [hk]
  · intro k hk
    rw [List.getD_eq_getElem?_getD]
    rw [sz] at hk
    simp [hk, fits]
theorem o_varr {a : Addr} {us : List Int64} {k : ClassId} {z : Int32} {vs : List Value} (A : Arv Z h a k .long z vs (.long 0)) (hz : z.toInt = (us.length : Int)) (hv : vs = us.map Value.long) : oA .long Z h a (us.map Value.long) := by
  obtain ⟨cl, A, -, sz, -, H, -⟩ := A
  have lt := Int32.toInt_lt z
  rw [o_nat hz] at sz
  refine ⟨by rw [List.length_map]; omega, cl, A, ?_⟩
  apply Array.ext_getElem?
  intro k
  by_cases hk : k < us.length
  · rw [H k (by omega), hv, List.getD_eq_getElem?_getD]; simp [hk]
  · rw [Array.getElem?_eq_none (by omega), List.getElem?_toArray, List.getElem?_eq_none (by rw [List.length_map]; omega)]
theorem o_acopy (H : oH p l e R s m args below meth c bc ml y rt Z n0 T h cells slots) {i : Nat} {a b : Addr} {us : List Int64} {n : Nat} {z : Int32} (w1 : (Jvm.Cond.methodLink y.cls i Jvm.Stand.acN).before a0 Z = true) (w2 : (Jvm.Cond.native Jvm.Stand.acN).before a0 Z = true) (w3 : (Jvm.Cond.static Jvm.Stand.acN).before a0 Z = true) (w4 : (Jvm.Cond.initialized "java/lang/System").before a0 Z = true)
    (A : oA .long Z h a (us.map Value.long)) (B : oA .long Z h b ((List.replicate n (0 : Int64)).map Value.long)) (hz : z.toInt = (us.length : Int)) (hle : us.length ≤ n) (hn31 : n < 2147483648) (gb : n0 ≤ b) (hd : decode bc pc = .ok (.invokestatic i, 3)) (hp : pc + 3 = pc') (hsz : L.size = ml) (hf : 1 ≤ R.frames) (hlo : (S.map fun v => v.category).sum + 18 ≤ R.locals)
    (k : ∀ (T' : State) (h' : Heap), oH p l e R s m args below meth c bc ml y rt Z n0 T' h' cells slots → Keep h h' [b] → oA .long Z h' b ((us ++ List.replicate (n - us.length) (0 : Int64)).map Value.long) → oG p e below s n0 kc ks Q (T'.setTop (mkF m (pc') L S))) : oG p e below s n0 kc ks Q (T.setTop (mkF m pc L (.int z :: .int 0 :: .ref b :: .int 0 :: .ref a :: S))) := by
  obtain ⟨locs, X, eT, N, hx, hby, hml, hZ, hown, hnm, hret, hlk, hn⟩ := H
  subst hp
  have e0 : (0 : Int32).toInt = 0 := rfl
  have z0 : (0 : Int32).toNatClampNeg = 0 := rfl
  obtain ⟨k1, A1⟩ := o_arv A hz
  have hN : (Int32.ofNat n).toInt = ((List.replicate n (0 : Int64)).length : Int) := by rw [List.length_replicate]; exact o_ofNat hn31
  obtain ⟨k2, B1⟩ := o_arv B hN
  have nz := o_nat hz
  have nN : (Int32.ofNat n).toNatClampNeg = n := by rw [o_nat hN, List.length_replicate]
  obtain ⟨T', h', L2, X', e', N', K, A3, st⟩ := cpA X hx hZ hown w1 w2 w3 w4 eT (sp := 0) (dp := 0) (nn := z) (us := us.map Value.long) A1 B1 (Or.inl ⟨rfl, rfl⟩) (by decide) (by decide) (by rw [Int32.lt_iff_toInt_lt, e0]; omega) (by rw [z0, nz]; omega) (by rw [z0, nz, nN]; omega)
    (by
      rw [nz, z0]
      apply List.ext_getElem?
      intro q
      by_cases hq : q < us.length
      · simp [hq, List.getD_eq_getElem?_getD]
      · rw [List.getElem?_eq_none (by rw [List.length_map]; omega), List.getElem?_eq_none (by rw [List.length_map, List.length_range]; omega)]) (by rw [z0, nz, List.length_map, List.length_replicate]; omega) (n0 := n0) N gb (g := mkF m pc L (.int z :: .int 0 :: .ref b :: .int 0 :: .ref a :: S)) rfl (by rw [hml]; exact hsz) (rest := S) rfl (hb hby hd) hf (W := (S.map fun v => v.category).sum) (by show 2 * 0 + _ ≤ _; omega) (by show _ + (7 + 11) ≤ _; omega)
  have A4 : oA .long Z h' b ((us ++ List.replicate (n - us.length) (0 : Int64)).map Value.long) := o_varr A3 (by rw [List.length_append, List.length_replicate]; rw [List.length_replicate] at hN; omega) (by rw [z0, nz]; simp)
  exact oG.go st (k T' h' ⟨L2, X', e', N', hx, hby, hml, hZ, hown, hnm, hret, hlk, hn⟩ K A4)
theorem o_private (H : oH p l e R s m args below meth c bc ml y rt Z n0 T h cells slots) {yc zq : MethodName} {K : String} {bcc : ByteArray} {maxL i : Nat} {rtc : Option FieldType} {rm : Room} {a : Addr} {Q' : Option Value → Heap → Prop} {St : List Value} (argsL : List Value) (S : List Value)
    (con : oC l Z n0 yc bcc maxL rtc rm rm.cells rm.slots (.ref a :: argsL).toArray h Q') (E : Exa Z h a K) (wl : (Jvm.Cond.methodLink y.cls i yc).before a0 Z = true) (wp : (Jvm.Cond.privateMethod yc).before a0 Z = true) (wq : (Jvm.Cond.selects zq.cls zq zq).before a0 Z = true) (hq : zq.cls = yc.cls) (ws : (Jvm.Cond.instanceMethod yc).before a0 Z = true) (wz : (Jvm.Cond.initialized yc.cls).before a0 Z = true) (wc : (Jvm.Cond.code yc bcc maxL rtc).before a0 Z = true) (hy : yc.cls ≠ "java/lang/invoke/MethodHandle" ∧ yc.cls ≠ "java/lang/invoke/VarHandle") (hlen : ∀ sig, parseMethodDescriptor yc.desc = some sig → argsL.length = sig.parameters.length) (hst : St = argsL.reverse ++ .ref a :: S) (hsz : L.size = ml) (hf : rm.frames + 1 ≤ R.frames) (hlo : (S.map fun v => v.category).sum + (maxL + 11) + rm.locals ≤ R.locals) (hc : cells + rm.cells ≤ R.cells) (hs : slots + rm.slots ≤ R.slots)
    (hd : decode bc pc = .ok (.invokevirtual i, 3)) (hp : pc + 3 = pc') (k : ∀ (T' : State) (v : Option Value) (h' : Heap), oH p l e R s m args below meth c bc ml y rt Z n0 T' h' (cells + rm.cells) (slots + rm.slots) → Q' v h' → oG p e below s n0 kc ks Q (T'.setTop (mkF m pc' L (v.toList ++ S)))) : oG p e below s n0 kc ks Q (T.setTop (mkF m pc L St)) := by
  obtain ⟨locs, X, eT, N, hx, hby, hml, hZ, hown, hnm, hret, hlk, hn⟩ := H
  subst hp
  subst hst
  obtain ⟨cq, kq, qa, qb, cell, qc1, qc2, qc3⟩ := isOf hZ eT E
  have hinst : (Jvm.Cond.instanceMethod yc).before args s = true := mvT hZ ws
  have hpr : s.PrivateAt yc := Cond.privateMethod_at (args := args) (mvP hZ wp)
  have hsel : (Jvm.Cond.selects yc.cls yc yc).before args s = true := by
    have q0 : (Jvm.Cond.selects zq.cls zq zq).before args s = true := mvT hZ wq
    obtain ⟨c2, r2, m2, -, -, q3, -, kP, hkP, hkPi⟩ := Cond.selects_spec q0
    exact selects_self_of_private (by rw [← hq]; exact findClass_of_methodNamed q3) hkP hkPi hpr hinst hy
  obtain ⟨v, _, ⟨T', L1, k1, n1⟩, -, X', ⟨Lc, hQ, l', y', z'⟩, st⟩ := X.privateBack hx (y := yc) hown (mvT hZ wl) hinst hsel hpr (mvT hZ wc) hy (backOf (W := (S.map fun v => v.category).sum) (Q := fun v h L => Q' v h ∧ Fr n0 L) (con []) hZ wc wz hf hlo) (g := mkF m pc L (argsL.reverse ++ .ref a :: S)) rfl (by rw [hml]; exact hsz) (Steps.refl _) qc1 (fun q r => by rw [r] at qc3; cases qc3) (argsL := argsL) (rest := S) hlen rfl (by show 2 * 0 + _ ≤ _; omega) (hb hby hd) (fun _ _ => ⟨rfl, eT, hc, hs⟩)
  dsimp only [Pt.U, Pt.locs, Pt.cells, Pt.slots] at X' l' y' z' st hQ
  subst l' y' z'
  exact oG.go (fun _ hr => st.trans hr) (k _ _ _ ⟨_, X', rfl, Fr.app N hQ.2, hx, hby, hml, hZ, hown, hnm, hret, hlk, hn⟩ hQ.1)
theorem o_len1 {ty : FieldType} {a : Addr} {v : Value} {r : List Value} (A : oA ty Z h a (v :: r)) : 0 < (v :: r).length.toInt32 ∧ ((v :: r).length.toInt32).toInt = ((r.length + 1 : Nat) : Int) := by
  have q := A.1
  have e : ((v :: r).length.toInt32).toInt = ((v :: r).length : Int) := o_ofNat q
  have e0 : (0 : Int32).toInt = 0 := rfl
  rw [List.length_cons] at e
  rw [List.length_cons, n_lt, e0, e]
  exact ⟨by omega, by omega⟩
def own_M (Z : State) (h : Heap) (n0 : Nat) (a : Addr) (ws : List Int64) : Prop := ∃ (la : Addr) (vs : List Value), Exa Z h a "com/example/following_sibling/followingsibling/MarkedIndexes" ∧ n0 ≤ a ∧ Fld Z h a "com/example/following_sibling/followingsibling/MarkedIndexes" "levels" "[[J" (.ref la) ∧ oA (.array .long) Z h la vs ∧
  ((ws = [] ∧ vs = []) ∨ ∃ (w0 : Addr) (rest : List Value), vs = .ref w0 :: rest ∧ ws ≠ [] ∧ oA .long Z h w0 (ws.map Value.long) ∧ n0 ≤ w0 ∧ w0 ≠ a ∧ w0 ≠ la ∧
    ((rest = [] ∧ ws.length = 1) ∨ ∃ (w1 : Addr) (rest' : List Value), rest = .ref w1 :: rest' ∧ w1 ≠ w0 ∧ oA .long Z h w1 ((List.replicate ((ws.length + 63) / 64) (0 : Int64)).map Value.long)))
end Own2
theorem d5_0 : decode jdk_29_method_65_code 0 = .ok (.iload_n 0, 1) := by decide +kernel
theorem d5_1 : decode jdk_29_method_65_code 1 = .ok (.iload_n 1, 1) := by decide +kernel
theorem d5_2 : decode jdk_29_method_65_code 2 = .ok (.if_icmp .lt 7, 3) := by decide +kernel
theorem d5_5 : decode jdk_29_method_65_code 5 = .ok (.iload_n 0, 1) := by decide +kernel
theorem d5_6 : decode jdk_29_method_65_code 6 = .ok (.goto 4, 3) := by decide +kernel
theorem d5_9 : decode jdk_29_method_65_code 9 = .ok (.iload_n 1, 1) := by decide +kernel
theorem d5_10 : decode jdk_29_method_65_code 10 = .ok (.ireturn, 1) := by decide +kernel
theorem pn5 : plainFor (⟨"java/lang/Math", "max", "(II)I"⟩ : MethodName) = true := Jvm.Free.JP.mathPlain rfl (by decide +kernel)
theorem pd5 : parseMethodDescriptor "(II)I" = some ⟨[.int, .int], some .int⟩ := by decide +kernel
set_option maxRecDepth 65536 in
set_option maxHeartbeats 40000000 in
theorem rm5 (l : Launch) (Z : State) (a0 : Array Value) (hw : ∀ d ∈ tables_1, d.before a0 Z = true) (p1 : Int32) (p2 : Int32)  (h0 : Heap) (n0 : Nat) (Z0 : n0 ≤ h0.size)  :
    oC l Z n0 (⟨"java/lang/Math", "max", "(II)I"⟩ : MethodName) jdk_29_method_65_code 2 (some .int) ({ frames := 0, cells := 0, slots := 0, locals := 0 } : Room) 0 0 #[(.int p1), (.int p2)] h0 (fun v h => v = some (.int (own_mx p1 p2)) ∧ h0 = h) := by
  refine oC.of (L := #[.val (.int p1), .val (.int p2)]) pn5 Z0 (fun m => by first | (simp [entryFrame, mkF, argsToLocals, Value.category]; done) | rfl) ?_
  intro p e s m below meth c T H
  refine o_iloadN H rfl d5_0 rfl ?_
  refine o_iloadN H rfl d5_1 rfl ?_
  refine o_icmp_lt H d5_2 (pt := 9) (by decide) (by decide) rfl ?_ ?_
  · intro c2_1
    refine o_iloadN H rfl d5_9 rfl ?_
    exact o_ireturn H rfl d5_10 (by decide) (by decide) ⟨by simp [own_mx, c2_1], rfl⟩
  · intro c2_1
    refine o_iloadN H rfl d5_5 rfl ?_
    refine o_goto H d5_6 (pt := 10) (by decide) (by decide) ?_
    exact o_ireturn H rfl d5_10 (by decide) (by decide) ⟨by simp [own_mx, c2_1], rfl⟩
theorem d7_0 : decode jdk_29_method_69_code 0 = .ok (.iload_n 0, 1) := by decide +kernel
theorem d7_1 : decode jdk_29_method_69_code 1 = .ok (.iload_n 1, 1) := by decide +kernel
theorem d7_2 : decode jdk_29_method_69_code 2 = .ok (.if_icmp .gt 7, 3) := by decide +kernel
theorem d7_5 : decode jdk_29_method_69_code 5 = .ok (.iload_n 0, 1) := by decide +kernel
theorem d7_6 : decode jdk_29_method_69_code 6 = .ok (.goto 4, 3) := by decide +kernel
theorem d7_9 : decode jdk_29_method_69_code 9 = .ok (.iload_n 1, 1) := by decide +kernel
theorem d7_10 : decode jdk_29_method_69_code 10 = .ok (.ireturn, 1) := by decide +kernel
theorem pn7 : plainFor (⟨"java/lang/Math", "min", "(II)I"⟩ : MethodName) = true := Jvm.Free.JP.mathPlain rfl (by decide +kernel)
theorem pd7 : parseMethodDescriptor "(II)I" = some ⟨[.int, .int], some .int⟩ := by decide +kernel
set_option maxRecDepth 65536 in
set_option maxHeartbeats 40000000 in
theorem rm7 (l : Launch) (Z : State) (a0 : Array Value) (hw : ∀ d ∈ tables_1, d.before a0 Z = true) (p1 : Int32) (p2 : Int32)  (h0 : Heap) (n0 : Nat) (Z0 : n0 ≤ h0.size)  :
    oC l Z n0 (⟨"java/lang/Math", "min", "(II)I"⟩ : MethodName) jdk_29_method_69_code 2 (some .int) ({ frames := 0, cells := 0, slots := 0, locals := 0 } : Room) 0 0 #[(.int p1), (.int p2)] h0 (fun v h => v = some (.int (own_mn p1 p2)) ∧ h0 = h) := by
  refine oC.of (L := #[.val (.int p1), .val (.int p2)]) pn7 Z0 (fun m => by first | (simp [entryFrame, mkF, argsToLocals, Value.category]; done) | rfl) ?_
  intro p e s m below meth c T H
  refine o_iloadN H rfl d7_0 rfl ?_
  refine o_iloadN H rfl d7_1 rfl ?_
  refine o_icmp_gt H d7_2 (pt := 9) (by decide) (by decide) rfl ?_ ?_
  · intro c2_1
    refine o_iloadN H rfl d7_9 rfl ?_
    exact o_ireturn H rfl d7_10 (by decide) (by decide) ⟨by simp [own_mn, c2_1], rfl⟩
  · intro c2_1
    refine o_iloadN H rfl d7_5 rfl ?_
    refine o_goto H d7_6 (pt := 10) (by decide) (by decide) ?_
    exact o_ireturn H rfl d7_10 (by decide) (by decide) ⟨by simp [own_mn, c2_1], rfl⟩
theorem d12_0 : decode jdk_33_method_48_code 0 = .ok (.iload_n 0, 1) := by decide +kernel
theorem d12_1 : decode jdk_33_method_48_code 1 = .ok (.iconst (-1), 1) := by decide +kernel
theorem d12_2 : decode jdk_33_method_48_code 2 = .ok (.ixor, 1) := by decide +kernel
theorem d12_3 : decode jdk_33_method_48_code 3 = .ok (.iload_n 0, 1) := by decide +kernel
theorem d12_4 : decode jdk_33_method_48_code 4 = .ok (.iconst 1, 1) := by decide +kernel
theorem d12_5 : decode jdk_33_method_48_code 5 = .ok (.isub, 1) := by decide +kernel
theorem d12_6 : decode jdk_33_method_48_code 6 = .ok (.iand, 1) := by decide +kernel
theorem d12_7 : decode jdk_33_method_48_code 7 = .ok (.istore_n 0, 1) := by decide +kernel
theorem d12_8 : decode jdk_33_method_48_code 8 = .ok (.iload_n 0, 1) := by decide +kernel
theorem d12_9 : decode jdk_33_method_48_code 9 = .ok (.ifCond .gt 8, 3) := by decide +kernel
theorem d12_12 : decode jdk_33_method_48_code 12 = .ok (.iload_n 0, 1) := by decide +kernel
theorem d12_13 : decode jdk_33_method_48_code 13 = .ok (.bipush 32, 2) := by decide +kernel
theorem d12_15 : decode jdk_33_method_48_code 15 = .ok (.iand, 1) := by decide +kernel
theorem d12_16 : decode jdk_33_method_48_code 16 = .ok (.ireturn, 1) := by decide +kernel
theorem d12_17 : decode jdk_33_method_48_code 17 = .ok (.iconst 1, 1) := by decide +kernel
theorem d12_18 : decode jdk_33_method_48_code 18 = .ok (.istore_n 1, 1) := by decide +kernel
theorem d12_19 : decode jdk_33_method_48_code 19 = .ok (.iload_n 0, 1) := by decide +kernel
theorem d12_20 : decode jdk_33_method_48_code 20 = .ok (.ldc_w 264, 3) := by decide +kernel
theorem d12_23 : decode jdk_33_method_48_code 23 = .ok (.if_icmp .le 11, 3) := by decide +kernel
theorem d12_26 : decode jdk_33_method_48_code 26 = .ok (.iinc 1 16, 3) := by decide +kernel
theorem d12_29 : decode jdk_33_method_48_code 29 = .ok (.iload_n 0, 1) := by decide +kernel
theorem d12_30 : decode jdk_33_method_48_code 30 = .ok (.bipush 16, 2) := by decide +kernel
theorem d12_32 : decode jdk_33_method_48_code 32 = .ok (.iushr, 1) := by decide +kernel
theorem d12_33 : decode jdk_33_method_48_code 33 = .ok (.istore_n 0, 1) := by decide +kernel
theorem d12_34 : decode jdk_33_method_48_code 34 = .ok (.iload_n 0, 1) := by decide +kernel
theorem d12_35 : decode jdk_33_method_48_code 35 = .ok (.sipush 256, 3) := by decide +kernel
theorem d12_38 : decode jdk_33_method_48_code 38 = .ok (.if_icmp .le 11, 3) := by decide +kernel
theorem d12_41 : decode jdk_33_method_48_code 41 = .ok (.iinc 1 8, 3) := by decide +kernel
theorem d12_44 : decode jdk_33_method_48_code 44 = .ok (.iload_n 0, 1) := by decide +kernel
theorem d12_45 : decode jdk_33_method_48_code 45 = .ok (.bipush 8, 2) := by decide +kernel
theorem d12_47 : decode jdk_33_method_48_code 47 = .ok (.iushr, 1) := by decide +kernel
theorem d12_48 : decode jdk_33_method_48_code 48 = .ok (.istore_n 0, 1) := by decide +kernel
theorem d12_49 : decode jdk_33_method_48_code 49 = .ok (.iload_n 0, 1) := by decide +kernel
theorem d12_50 : decode jdk_33_method_48_code 50 = .ok (.bipush 16, 2) := by decide +kernel
theorem d12_52 : decode jdk_33_method_48_code 52 = .ok (.if_icmp .le 10, 3) := by decide +kernel
theorem d12_55 : decode jdk_33_method_48_code 55 = .ok (.iinc 1 4, 3) := by decide +kernel
theorem d12_58 : decode jdk_33_method_48_code 58 = .ok (.iload_n 0, 1) := by decide +kernel
theorem d12_59 : decode jdk_33_method_48_code 59 = .ok (.iconst 4, 1) := by decide +kernel
theorem d12_60 : decode jdk_33_method_48_code 60 = .ok (.iushr, 1) := by decide +kernel
theorem d12_61 : decode jdk_33_method_48_code 61 = .ok (.istore_n 0, 1) := by decide +kernel
theorem d12_62 : decode jdk_33_method_48_code 62 = .ok (.iload_n 0, 1) := by decide +kernel
theorem d12_63 : decode jdk_33_method_48_code 63 = .ok (.iconst 4, 1) := by decide +kernel
theorem d12_64 : decode jdk_33_method_48_code 64 = .ok (.if_icmp .le 10, 3) := by decide +kernel
theorem d12_67 : decode jdk_33_method_48_code 67 = .ok (.iinc 1 2, 3) := by decide +kernel
theorem d12_70 : decode jdk_33_method_48_code 70 = .ok (.iload_n 0, 1) := by decide +kernel
theorem d12_71 : decode jdk_33_method_48_code 71 = .ok (.iconst 2, 1) := by decide +kernel
theorem d12_72 : decode jdk_33_method_48_code 72 = .ok (.iushr, 1) := by decide +kernel
theorem d12_73 : decode jdk_33_method_48_code 73 = .ok (.istore_n 0, 1) := by decide +kernel
theorem d12_74 : decode jdk_33_method_48_code 74 = .ok (.iload_n 1, 1) := by decide +kernel
theorem d12_75 : decode jdk_33_method_48_code 75 = .ok (.iload_n 0, 1) := by decide +kernel
theorem d12_76 : decode jdk_33_method_48_code 76 = .ok (.iconst 1, 1) := by decide +kernel
theorem d12_77 : decode jdk_33_method_48_code 77 = .ok (.iushr, 1) := by decide +kernel
theorem d12_78 : decode jdk_33_method_48_code 78 = .ok (.iadd, 1) := by decide +kernel
theorem d12_79 : decode jdk_33_method_48_code 79 = .ok (.ireturn, 1) := by decide +kernel
theorem pn12 : plainFor (⟨"java/lang/Integer", "numberOfTrailingZeros", "(I)I"⟩ : MethodName) = true := plainFor_of_name (by first | (simp [plainName, overriddenIn]; done) | decide +kernel)
theorem pd12 : parseMethodDescriptor "(I)I" = some ⟨[.int], some .int⟩ := by decide +kernel
set_option maxRecDepth 65536 in
set_option maxHeartbeats 40000000 in
theorem rm12 (l : Launch) (Z : State) (a0 : Array Value) (hw : ∀ d ∈ tables_1, d.before a0 Z = true) (p1 : Int32)  (h0 : Heap) (n0 : Nat) (Z0 : n0 ≤ h0.size)  :
    oC l Z n0 (⟨"java/lang/Integer", "numberOfTrailingZeros", "(I)I"⟩ : MethodName) jdk_33_method_48_code 2 (some .int) ({ frames := 0, cells := 0, slots := 0, locals := 0 } : Room) 0 0 #[(.int p1)] h0 (fun v h => v = some (.int (Jvm.Free.JP.Integer_numberOfTrailingZeros_I.val p1)) ∧ h0 = h) := by
  refine oC.of (L := #[.val (.int p1), .unset]) pn12 Z0 (fun m => by first | (simp [entryFrame, mkF, argsToLocals, Value.category]; done) | rfl) ?_
  intro p e s m below meth c T H
  refine o_iloadN H rfl d12_0 rfl ?_
  refine o_iconst H (-1 : Int32) rfl d12_1 rfl ?_
  refine o_ixor H d12_2 rfl ?_
  refine o_iloadN H rfl d12_3 rfl ?_
  refine o_iconst H (1 : Int32) rfl d12_4 rfl ?_
  refine o_isub H d12_5 rfl ?_
  refine o_iand H d12_6 rfl ?_
  refine o_istoreN H (L' := #[.val (.int ((p1 ^^^ (-1 : Int32)) &&& (p1 - (1 : Int32)))), .unset]) rfl d12_7 rfl ?_
  refine o_iloadN H rfl d12_8 rfl ?_
  refine o_if_gt H d12_9 (pt := 17) (by decide) (by decide) rfl ?_ ?_
  · intro c9_1
    refine o_iconst H (1 : Int32) rfl d12_17 rfl ?_
    refine o_istoreN H (L' := #[.val (.int ((p1 ^^^ (-1 : Int32)) &&& (p1 - (1 : Int32)))), .val (.int (1 : Int32))]) rfl d12_18 rfl ?_
    refine o_iloadN H rfl d12_19 rfl ?_
    refine o_ldcWI H (65536 : Int32) (w63 hw) d12_20 rfl ?_
    refine o_icmp_le H d12_23 (pt := 34) (by decide) (by decide) rfl ?_ ?_
    · intro c23_2
      refine o_iloadN H rfl d12_34 rfl ?_
      refine o_sipush H (256 : Int32) rfl d12_35 rfl ?_
      refine o_icmp_le H d12_38 (pt := 49) (by decide) (by decide) rfl ?_ ?_
      · intro c38_3
        refine o_iloadN H rfl d12_49 rfl ?_
        refine o_bipush H (16 : Int32) rfl d12_50 rfl ?_
        refine o_icmp_le H d12_52 (pt := 62) (by decide) (by decide) rfl ?_ ?_
        · intro c52_4
          refine o_iloadN H rfl d12_62 rfl ?_
          refine o_iconst H (4 : Int32) rfl d12_63 rfl ?_
          refine o_icmp_le H d12_64 (pt := 74) (by decide) (by decide) rfl ?_ ?_
          · intro c64_5
            refine o_iloadN H rfl d12_74 rfl ?_
            refine o_iloadN H rfl d12_75 rfl ?_
            refine o_iconst H (1 : Int32) rfl d12_76 rfl ?_
            refine o_iushr H d12_77 rfl ?_
            refine o_iadd H d12_78 rfl ?_
            exact o_ireturn H rfl d12_79 (by decide) (by decide) ⟨by simp only [Jvm.Free.JP.Integer_numberOfTrailingZeros_I.val, c9_1, c23_2, c38_3, c52_4, c64_5, ↓reduceIte], rfl⟩
          · intro c64_5
            refine o_iinc H (2 : Int32) ((1 : Int32) + (2 : Int32)) rfl rfl rfl (L' := #[.val (.int ((p1 ^^^ (-1 : Int32)) &&& (p1 - (1 : Int32)))), .val (.int ((1 : Int32) + (2 : Int32)))]) rfl d12_67 rfl ?_
            refine o_iloadN H rfl d12_70 rfl ?_
            refine o_iconst H (2 : Int32) rfl d12_71 rfl ?_
            refine o_iushr H d12_72 rfl ?_
            refine o_istoreN H (L' := #[.val (.int (XT.ushr ((p1 ^^^ (-1 : Int32)) &&& (p1 - (1 : Int32))) (2 : Int32))), .val (.int ((1 : Int32) + (2 : Int32)))]) rfl d12_73 rfl ?_
            refine o_iloadN H rfl d12_74 rfl ?_
            refine o_iloadN H rfl d12_75 rfl ?_
            refine o_iconst H (1 : Int32) rfl d12_76 rfl ?_
            refine o_iushr H d12_77 rfl ?_
            refine o_iadd H d12_78 rfl ?_
            exact o_ireturn H rfl d12_79 (by decide) (by decide) ⟨by simp only [Jvm.Free.JP.Integer_numberOfTrailingZeros_I.val, c9_1, c23_2, c38_3, c52_4, c64_5, ↓reduceIte], rfl⟩
        · intro c52_4
          refine o_iinc H (4 : Int32) ((1 : Int32) + (4 : Int32)) rfl rfl rfl (L' := #[.val (.int ((p1 ^^^ (-1 : Int32)) &&& (p1 - (1 : Int32)))), .val (.int ((1 : Int32) + (4 : Int32)))]) rfl d12_55 rfl ?_
          refine o_iloadN H rfl d12_58 rfl ?_
          refine o_iconst H (4 : Int32) rfl d12_59 rfl ?_
          refine o_iushr H d12_60 rfl ?_
          refine o_istoreN H (L' := #[.val (.int (XT.ushr ((p1 ^^^ (-1 : Int32)) &&& (p1 - (1 : Int32))) (4 : Int32))), .val (.int ((1 : Int32) + (4 : Int32)))]) rfl d12_61 rfl ?_
          refine o_iloadN H rfl d12_62 rfl ?_
          refine o_iconst H (4 : Int32) rfl d12_63 rfl ?_
          refine o_icmp_le H d12_64 (pt := 74) (by decide) (by decide) rfl ?_ ?_
          · intro c64_6
            refine o_iloadN H rfl d12_74 rfl ?_
            refine o_iloadN H rfl d12_75 rfl ?_
            refine o_iconst H (1 : Int32) rfl d12_76 rfl ?_
            refine o_iushr H d12_77 rfl ?_
            refine o_iadd H d12_78 rfl ?_
            exact o_ireturn H rfl d12_79 (by decide) (by decide) ⟨by simp only [Jvm.Free.JP.Integer_numberOfTrailingZeros_I.val, c9_1, c23_2, c38_3, c52_4, c64_6, ↓reduceIte], rfl⟩
          · intro c64_6
            refine o_iinc H (2 : Int32) (((1 : Int32) + (4 : Int32)) + (2 : Int32)) rfl rfl rfl (L' := #[.val (.int (XT.ushr ((p1 ^^^ (-1 : Int32)) &&& (p1 - (1 : Int32))) (4 : Int32))), .val (.int (((1 : Int32) + (4 : Int32)) + (2 : Int32)))]) rfl d12_67 rfl ?_
            refine o_iloadN H rfl d12_70 rfl ?_
            refine o_iconst H (2 : Int32) rfl d12_71 rfl ?_
            refine o_iushr H d12_72 rfl ?_
            refine o_istoreN H (L' := #[.val (.int (XT.ushr (XT.ushr ((p1 ^^^ (-1 : Int32)) &&& (p1 - (1 : Int32))) (4 : Int32)) (2 : Int32))), .val (.int (((1 : Int32) + (4 : Int32)) + (2 : Int32)))]) rfl d12_73 rfl ?_
            refine o_iloadN H rfl d12_74 rfl ?_
            refine o_iloadN H rfl d12_75 rfl ?_
            refine o_iconst H (1 : Int32) rfl d12_76 rfl ?_
            refine o_iushr H d12_77 rfl ?_
            refine o_iadd H d12_78 rfl ?_
            exact o_ireturn H rfl d12_79 (by decide) (by decide) ⟨by simp only [Jvm.Free.JP.Integer_numberOfTrailingZeros_I.val, c9_1, c23_2, c38_3, c52_4, c64_6, ↓reduceIte], rfl⟩
      · intro c38_3
        refine o_iinc H (8 : Int32) ((1 : Int32) + (8 : Int32)) rfl rfl rfl (L' := #[.val (.int ((p1 ^^^ (-1 : Int32)) &&& (p1 - (1 : Int32)))), .val (.int ((1 : Int32) + (8 : Int32)))]) rfl d12_41 rfl ?_
        refine o_iloadN H rfl d12_44 rfl ?_
        refine o_bipush H (8 : Int32) rfl d12_45 rfl ?_
        refine o_iushr H d12_47 rfl ?_
        refine o_istoreN H (L' := #[.val (.int (XT.ushr ((p1 ^^^ (-1 : Int32)) &&& (p1 - (1 : Int32))) (8 : Int32))), .val (.int ((1 : Int32) + (8 : Int32)))]) rfl d12_48 rfl ?_
        refine o_iloadN H rfl d12_49 rfl ?_
        refine o_bipush H (16 : Int32) rfl d12_50 rfl ?_
        refine o_icmp_le H d12_52 (pt := 62) (by decide) (by decide) rfl ?_ ?_
        · intro c52_7
          refine o_iloadN H rfl d12_62 rfl ?_
          refine o_iconst H (4 : Int32) rfl d12_63 rfl ?_
          refine o_icmp_le H d12_64 (pt := 74) (by decide) (by decide) rfl ?_ ?_
          · intro c64_8
            refine o_iloadN H rfl d12_74 rfl ?_
            refine o_iloadN H rfl d12_75 rfl ?_
            refine o_iconst H (1 : Int32) rfl d12_76 rfl ?_
            refine o_iushr H d12_77 rfl ?_
            refine o_iadd H d12_78 rfl ?_
            exact o_ireturn H rfl d12_79 (by decide) (by decide) ⟨by simp only [Jvm.Free.JP.Integer_numberOfTrailingZeros_I.val, c9_1, c23_2, c38_3, c52_7, c64_8, ↓reduceIte], rfl⟩
          · intro c64_8
            refine o_iinc H (2 : Int32) (((1 : Int32) + (8 : Int32)) + (2 : Int32)) rfl rfl rfl (L' := #[.val (.int (XT.ushr ((p1 ^^^ (-1 : Int32)) &&& (p1 - (1 : Int32))) (8 : Int32))), .val (.int (((1 : Int32) + (8 : Int32)) + (2 : Int32)))]) rfl d12_67 rfl ?_
            refine o_iloadN H rfl d12_70 rfl ?_
            refine o_iconst H (2 : Int32) rfl d12_71 rfl ?_
            refine o_iushr H d12_72 rfl ?_
            refine o_istoreN H (L' := #[.val (.int (XT.ushr (XT.ushr ((p1 ^^^ (-1 : Int32)) &&& (p1 - (1 : Int32))) (8 : Int32)) (2 : Int32))), .val (.int (((1 : Int32) + (8 : Int32)) + (2 : Int32)))]) rfl d12_73 rfl ?_
            refine o_iloadN H rfl d12_74 rfl ?_
            refine o_iloadN H rfl d12_75 rfl ?_
            refine o_iconst H (1 : Int32) rfl d12_76 rfl ?_
            refine o_iushr H d12_77 rfl ?_
            refine o_iadd H d12_78 rfl ?_
            exact o_ireturn H rfl d12_79 (by decide) (by decide) ⟨by simp only [Jvm.Free.JP.Integer_numberOfTrailingZeros_I.val, c9_1, c23_2, c38_3, c52_7, c64_8, ↓reduceIte], rfl⟩
        · intro c52_7
          refine o_iinc H (4 : Int32) (((1 : Int32) + (8 : Int32)) + (4 : Int32)) rfl rfl rfl (L' := #[.val (.int (XT.ushr ((p1 ^^^ (-1 : Int32)) &&& (p1 - (1 : Int32))) (8 : Int32))), .val (.int (((1 : Int32) + (8 : Int32)) + (4 : Int32)))]) rfl d12_55 rfl ?_
          refine o_iloadN H rfl d12_58 rfl ?_
          refine o_iconst H (4 : Int32) rfl d12_59 rfl ?_
          refine o_iushr H d12_60 rfl ?_
          refine o_istoreN H (L' := #[.val (.int (XT.ushr (XT.ushr ((p1 ^^^ (-1 : Int32)) &&& (p1 - (1 : Int32))) (8 : Int32)) (4 : Int32))), .val (.int (((1 : Int32) + (8 : Int32)) + (4 : Int32)))]) rfl d12_61 rfl ?_
          refine o_iloadN H rfl d12_62 rfl ?_
          refine o_iconst H (4 : Int32) rfl d12_63 rfl ?_
          refine o_icmp_le H d12_64 (pt := 74) (by decide) (by decide) rfl ?_ ?_
          · intro c64_9
            refine o_iloadN H rfl d12_74 rfl ?_
            refine o_iloadN H rfl d12_75 rfl ?_
            refine o_iconst H (1 : Int32) rfl d12_76 rfl ?_
            refine o_iushr H d12_77 rfl ?_
            refine o_iadd H d12_78 rfl ?_
            exact o_ireturn H rfl d12_79 (by decide) (by decide) ⟨by simp only [Jvm.Free.JP.Integer_numberOfTrailingZeros_I.val, c9_1, c23_2, c38_3, c52_7, c64_9, ↓reduceIte], rfl⟩
          · intro c64_9
            refine o_iinc H (2 : Int32) ((((1 : Int32) + (8 : Int32)) + (4 : Int32)) + (2 : Int32)) rfl rfl rfl (L' := #[.val (.int (XT.ushr (XT.ushr ((p1 ^^^ (-1 : Int32)) &&& (p1 - (1 : Int32))) (8 : Int32)) (4 : Int32))), .val (.int ((((1 : Int32) + (8 : Int32)) + (4 : Int32)) + (2 : Int32)))]) rfl d12_67 rfl ?_
            refine o_iloadN H rfl d12_70 rfl ?_
            refine o_iconst H (2 : Int32) rfl d12_71 rfl ?_
            refine o_iushr H d12_72 rfl ?_
            refine o_istoreN H (L' := #[.val (.int (XT.ushr (XT.ushr (XT.ushr ((p1 ^^^ (-1 : Int32)) &&& (p1 - (1 : Int32))) (8 : Int32)) (4 : Int32)) (2 : Int32))), .val (.int ((((1 : Int32) + (8 : Int32)) + (4 : Int32)) + (2 : Int32)))]) rfl d12_73 rfl ?_
            refine o_iloadN H rfl d12_74 rfl ?_
            refine o_iloadN H rfl d12_75 rfl ?_
            refine o_iconst H (1 : Int32) rfl d12_76 rfl ?_
            refine o_iushr H d12_77 rfl ?_
            refine o_iadd H d12_78 rfl ?_
            exact o_ireturn H rfl d12_79 (by decide) (by decide) ⟨by simp only [Jvm.Free.JP.Integer_numberOfTrailingZeros_I.val, c9_1, c23_2, c38_3, c52_7, c64_9, ↓reduceIte], rfl⟩
    · intro c23_2
      refine o_iinc H (16 : Int32) ((1 : Int32) + (16 : Int32)) rfl rfl rfl (L' := #[.val (.int ((p1 ^^^ (-1 : Int32)) &&& (p1 - (1 : Int32)))), .val (.int ((1 : Int32) + (16 : Int32)))]) rfl d12_26 rfl ?_
      refine o_iloadN H rfl d12_29 rfl ?_
      refine o_bipush H (16 : Int32) rfl d12_30 rfl ?_
      refine o_iushr H d12_32 rfl ?_
      refine o_istoreN H (L' := #[.val (.int (XT.ushr ((p1 ^^^ (-1 : Int32)) &&& (p1 - (1 : Int32))) (16 : Int32))), .val (.int ((1 : Int32) + (16 : Int32)))]) rfl d12_33 rfl ?_
      refine o_iloadN H rfl d12_34 rfl ?_
      refine o_sipush H (256 : Int32) rfl d12_35 rfl ?_
      refine o_icmp_le H d12_38 (pt := 49) (by decide) (by decide) rfl ?_ ?_
      · intro c38_10
        refine o_iloadN H rfl d12_49 rfl ?_
        refine o_bipush H (16 : Int32) rfl d12_50 rfl ?_
        refine o_icmp_le H d12_52 (pt := 62) (by decide) (by decide) rfl ?_ ?_
        · intro c52_11
          refine o_iloadN H rfl d12_62 rfl ?_
          refine o_iconst H (4 : Int32) rfl d12_63 rfl ?_
          refine o_icmp_le H d12_64 (pt := 74) (by decide) (by decide) rfl ?_ ?_
          · intro c64_12
            refine o_iloadN H rfl d12_74 rfl ?_
            refine o_iloadN H rfl d12_75 rfl ?_
            refine o_iconst H (1 : Int32) rfl d12_76 rfl ?_
            refine o_iushr H d12_77 rfl ?_
            refine o_iadd H d12_78 rfl ?_
            exact o_ireturn H rfl d12_79 (by decide) (by decide) ⟨by simp only [Jvm.Free.JP.Integer_numberOfTrailingZeros_I.val, c9_1, c23_2, c38_10, c52_11, c64_12, ↓reduceIte], rfl⟩
          · intro c64_12
            refine o_iinc H (2 : Int32) (((1 : Int32) + (16 : Int32)) + (2 : Int32)) rfl rfl rfl (L' := #[.val (.int (XT.ushr ((p1 ^^^ (-1 : Int32)) &&& (p1 - (1 : Int32))) (16 : Int32))), .val (.int (((1 : Int32) + (16 : Int32)) + (2 : Int32)))]) rfl d12_67 rfl ?_
            refine o_iloadN H rfl d12_70 rfl ?_
            refine o_iconst H (2 : Int32) rfl d12_71 rfl ?_
            refine o_iushr H d12_72 rfl ?_
            refine o_istoreN H (L' := #[.val (.int (XT.ushr (XT.ushr ((p1 ^^^ (-1 : Int32)) &&& (p1 - (1 : Int32))) (16 : Int32)) (2 : Int32))), .val (.int (((1 : Int32) + (16 : Int32)) + (2 : Int32)))]) rfl d12_73 rfl ?_
            refine o_iloadN H rfl d12_74 rfl ?_
            refine o_iloadN H rfl d12_75 rfl ?_
            refine o_iconst H (1 : Int32) rfl d12_76 rfl ?_
            refine o_iushr H d12_77 rfl ?_
            refine o_iadd H d12_78 rfl ?_
            exact o_ireturn H rfl d12_79 (by decide) (by decide) ⟨by simp only [Jvm.Free.JP.Integer_numberOfTrailingZeros_I.val, c9_1, c23_2, c38_10, c52_11, c64_12, ↓reduceIte], rfl⟩
        · intro c52_11
          refine o_iinc H (4 : Int32) (((1 : Int32) + (16 : Int32)) + (4 : Int32)) rfl rfl rfl (L' := #[.val (.int (XT.ushr ((p1 ^^^ (-1 : Int32)) &&& (p1 - (1 : Int32))) (16 : Int32))), .val (.int (((1 : Int32) + (16 : Int32)) + (4 : Int32)))]) rfl d12_55 rfl ?_
          refine o_iloadN H rfl d12_58 rfl ?_
          refine o_iconst H (4 : Int32) rfl d12_59 rfl ?_
          refine o_iushr H d12_60 rfl ?_
          refine o_istoreN H (L' := #[.val (.int (XT.ushr (XT.ushr ((p1 ^^^ (-1 : Int32)) &&& (p1 - (1 : Int32))) (16 : Int32)) (4 : Int32))), .val (.int (((1 : Int32) + (16 : Int32)) + (4 : Int32)))]) rfl d12_61 rfl ?_
          refine o_iloadN H rfl d12_62 rfl ?_
          refine o_iconst H (4 : Int32) rfl d12_63 rfl ?_
          refine o_icmp_le H d12_64 (pt := 74) (by decide) (by decide) rfl ?_ ?_
          · intro c64_13
            refine o_iloadN H rfl d12_74 rfl ?_
            refine o_iloadN H rfl d12_75 rfl ?_
            refine o_iconst H (1 : Int32) rfl d12_76 rfl ?_
            refine o_iushr H d12_77 rfl ?_
            refine o_iadd H d12_78 rfl ?_
            exact o_ireturn H rfl d12_79 (by decide) (by decide) ⟨by simp only [Jvm.Free.JP.Integer_numberOfTrailingZeros_I.val, c9_1, c23_2, c38_10, c52_11, c64_13, ↓reduceIte], rfl⟩
          · intro c64_13
            refine o_iinc H (2 : Int32) ((((1 : Int32) + (16 : Int32)) + (4 : Int32)) + (2 : Int32)) rfl rfl rfl (L' := #[.val (.int (XT.ushr (XT.ushr ((p1 ^^^ (-1 : Int32)) &&& (p1 - (1 : Int32))) (16 : Int32)) (4 : Int32))), .val (.int ((((1 : Int32) + (16 : Int32)) + (4 : Int32)) + (2 : Int32)))]) rfl d12_67 rfl ?_
            refine o_iloadN H rfl d12_70 rfl ?_
            refine o_iconst H (2 : Int32) rfl d12_71 rfl ?_
            refine o_iushr H d12_72 rfl ?_
            refine o_istoreN H (L' := #[.val (.int (XT.ushr (XT.ushr (XT.ushr ((p1 ^^^ (-1 : Int32)) &&& (p1 - (1 : Int32))) (16 : Int32)) (4 : Int32)) (2 : Int32))), .val (.int ((((1 : Int32) + (16 : Int32)) + (4 : Int32)) + (2 : Int32)))]) rfl d12_73 rfl ?_
            refine o_iloadN H rfl d12_74 rfl ?_
            refine o_iloadN H rfl d12_75 rfl ?_
            refine o_iconst H (1 : Int32) rfl d12_76 rfl ?_
            refine o_iushr H d12_77 rfl ?_
            refine o_iadd H d12_78 rfl ?_
            exact o_ireturn H rfl d12_79 (by decide) (by decide) ⟨by simp only [Jvm.Free.JP.Integer_numberOfTrailingZeros_I.val, c9_1, c23_2, c38_10, c52_11, c64_13, ↓reduceIte], rfl⟩
      · intro c38_10
        refine o_iinc H (8 : Int32) (((1 : Int32) + (16 : Int32)) + (8 : Int32)) rfl rfl rfl (L' := #[.val (.int (XT.ushr ((p1 ^^^ (-1 : Int32)) &&& (p1 - (1 : Int32))) (16 : Int32))), .val (.int (((1 : Int32) + (16 : Int32)) + (8 : Int32)))]) rfl d12_41 rfl ?_
        refine o_iloadN H rfl d12_44 rfl ?_
        refine o_bipush H (8 : Int32) rfl d12_45 rfl ?_
        refine o_iushr H d12_47 rfl ?_
        refine o_istoreN H (L' := #[.val (.int (XT.ushr (XT.ushr ((p1 ^^^ (-1 : Int32)) &&& (p1 - (1 : Int32))) (16 : Int32)) (8 : Int32))), .val (.int (((1 : Int32) + (16 : Int32)) + (8 : Int32)))]) rfl d12_48 rfl ?_
        refine o_iloadN H rfl d12_49 rfl ?_
        refine o_bipush H (16 : Int32) rfl d12_50 rfl ?_
        refine o_icmp_le H d12_52 (pt := 62) (by decide) (by decide) rfl ?_ ?_
        · intro c52_14
          refine o_iloadN H rfl d12_62 rfl ?_
          refine o_iconst H (4 : Int32) rfl d12_63 rfl ?_
          refine o_icmp_le H d12_64 (pt := 74) (by decide) (by decide) rfl ?_ ?_
          · intro c64_15
            refine o_iloadN H rfl d12_74 rfl ?_
            refine o_iloadN H rfl d12_75 rfl ?_
            refine o_iconst H (1 : Int32) rfl d12_76 rfl ?_
            refine o_iushr H d12_77 rfl ?_
            refine o_iadd H d12_78 rfl ?_
            exact o_ireturn H rfl d12_79 (by decide) (by decide) ⟨by simp only [Jvm.Free.JP.Integer_numberOfTrailingZeros_I.val, c9_1, c23_2, c38_10, c52_14, c64_15, ↓reduceIte], rfl⟩
          · intro c64_15
            refine o_iinc H (2 : Int32) ((((1 : Int32) + (16 : Int32)) + (8 : Int32)) + (2 : Int32)) rfl rfl rfl (L' := #[.val (.int (XT.ushr (XT.ushr ((p1 ^^^ (-1 : Int32)) &&& (p1 - (1 : Int32))) (16 : Int32)) (8 : Int32))), .val (.int ((((1 : Int32) + (16 : Int32)) + (8 : Int32)) + (2 : Int32)))]) rfl d12_67 rfl ?_
            refine o_iloadN H rfl d12_70 rfl ?_
            refine o_iconst H (2 : Int32) rfl d12_71 rfl ?_
            refine o_iushr H d12_72 rfl ?_
            refine o_istoreN H (L' := #[.val (.int (XT.ushr (XT.ushr (XT.ushr ((p1 ^^^ (-1 : Int32)) &&& (p1 - (1 : Int32))) (16 : Int32)) (8 : Int32)) (2 : Int32))), .val (.int ((((1 : Int32) + (16 : Int32)) + (8 : Int32)) + (2 : Int32)))]) rfl d12_73 rfl ?_
            refine o_iloadN H rfl d12_74 rfl ?_
            refine o_iloadN H rfl d12_75 rfl ?_
            refine o_iconst H (1 : Int32) rfl d12_76 rfl ?_
            refine o_iushr H d12_77 rfl ?_
            refine o_iadd H d12_78 rfl ?_
            exact o_ireturn H rfl d12_79 (by decide) (by decide) ⟨by simp only [Jvm.Free.JP.Integer_numberOfTrailingZeros_I.val, c9_1, c23_2, c38_10, c52_14, c64_15, ↓reduceIte], rfl⟩
        · intro c52_14
          refine o_iinc H (4 : Int32) ((((1 : Int32) + (16 : Int32)) + (8 : Int32)) + (4 : Int32)) rfl rfl rfl (L' := #[.val (.int (XT.ushr (XT.ushr ((p1 ^^^ (-1 : Int32)) &&& (p1 - (1 : Int32))) (16 : Int32)) (8 : Int32))), .val (.int ((((1 : Int32) + (16 : Int32)) + (8 : Int32)) + (4 : Int32)))]) rfl d12_55 rfl ?_
          refine o_iloadN H rfl d12_58 rfl ?_
          refine o_iconst H (4 : Int32) rfl d12_59 rfl ?_
          refine o_iushr H d12_60 rfl ?_
          refine o_istoreN H (L' := #[.val (.int (XT.ushr (XT.ushr (XT.ushr ((p1 ^^^ (-1 : Int32)) &&& (p1 - (1 : Int32))) (16 : Int32)) (8 : Int32)) (4 : Int32))), .val (.int ((((1 : Int32) + (16 : Int32)) + (8 : Int32)) + (4 : Int32)))]) rfl d12_61 rfl ?_
          refine o_iloadN H rfl d12_62 rfl ?_
          refine o_iconst H (4 : Int32) rfl d12_63 rfl ?_
          refine o_icmp_le H d12_64 (pt := 74) (by decide) (by decide) rfl ?_ ?_
          · intro c64_16
            refine o_iloadN H rfl d12_74 rfl ?_
            refine o_iloadN H rfl d12_75 rfl ?_
            refine o_iconst H (1 : Int32) rfl d12_76 rfl ?_
            refine o_iushr H d12_77 rfl ?_
            refine o_iadd H d12_78 rfl ?_
            exact o_ireturn H rfl d12_79 (by decide) (by decide) ⟨by simp only [Jvm.Free.JP.Integer_numberOfTrailingZeros_I.val, c9_1, c23_2, c38_10, c52_14, c64_16, ↓reduceIte], rfl⟩
          · intro c64_16
            refine o_iinc H (2 : Int32) (((((1 : Int32) + (16 : Int32)) + (8 : Int32)) + (4 : Int32)) + (2 : Int32)) rfl rfl rfl (L' := #[.val (.int (XT.ushr (XT.ushr (XT.ushr ((p1 ^^^ (-1 : Int32)) &&& (p1 - (1 : Int32))) (16 : Int32)) (8 : Int32)) (4 : Int32))), .val (.int (((((1 : Int32) + (16 : Int32)) + (8 : Int32)) + (4 : Int32)) + (2 : Int32)))]) rfl d12_67 rfl ?_
            refine o_iloadN H rfl d12_70 rfl ?_
            refine o_iconst H (2 : Int32) rfl d12_71 rfl ?_
            refine o_iushr H d12_72 rfl ?_
            refine o_istoreN H (L' := #[.val (.int (XT.ushr (XT.ushr (XT.ushr (XT.ushr ((p1 ^^^ (-1 : Int32)) &&& (p1 - (1 : Int32))) (16 : Int32)) (8 : Int32)) (4 : Int32)) (2 : Int32))), .val (.int (((((1 : Int32) + (16 : Int32)) + (8 : Int32)) + (4 : Int32)) + (2 : Int32)))]) rfl d12_73 rfl ?_
            refine o_iloadN H rfl d12_74 rfl ?_
            refine o_iloadN H rfl d12_75 rfl ?_
            refine o_iconst H (1 : Int32) rfl d12_76 rfl ?_
            refine o_iushr H d12_77 rfl ?_
            refine o_iadd H d12_78 rfl ?_
            exact o_ireturn H rfl d12_79 (by decide) (by decide) ⟨by simp only [Jvm.Free.JP.Integer_numberOfTrailingZeros_I.val, c9_1, c23_2, c38_10, c52_14, c64_16, ↓reduceIte], rfl⟩
  · intro c9_1
    refine o_iloadN H rfl d12_12 rfl ?_
    refine o_bipush H (32 : Int32) rfl d12_13 rfl ?_
    refine o_iand H d12_15 rfl ?_
    exact o_ireturn H rfl d12_16 (by decide) (by decide) ⟨by simp only [Jvm.Free.JP.Integer_numberOfTrailingZeros_I.val, c9_1, ↓reduceIte], rfl⟩
theorem d11_0 : decode jdk_35_method_49_code 0 = .ok (.lload_n 0, 1) := by decide +kernel
theorem d11_1 : decode jdk_35_method_49_code 1 = .ok (.l2i, 1) := by decide +kernel
theorem d11_2 : decode jdk_35_method_49_code 2 = .ok (.istore_n 2, 1) := by decide +kernel
theorem d11_3 : decode jdk_35_method_49_code 3 = .ok (.iload_n 2, 1) := by decide +kernel
theorem d11_4 : decode jdk_35_method_49_code 4 = .ok (.ifCond .ne 17, 3) := by decide +kernel
theorem d11_7 : decode jdk_35_method_49_code 7 = .ok (.bipush 32, 2) := by decide +kernel
theorem d11_9 : decode jdk_35_method_49_code 9 = .ok (.lload_n 0, 1) := by decide +kernel
theorem d11_10 : decode jdk_35_method_49_code 10 = .ok (.bipush 32, 2) := by decide +kernel
theorem d11_12 : decode jdk_35_method_49_code 12 = .ok (.lushr, 1) := by decide +kernel
theorem d11_13 : decode jdk_35_method_49_code 13 = .ok (.l2i, 1) := by decide +kernel
theorem d11_14 : decode jdk_35_method_49_code 14 = .ok (.invokestatic 311, 3) := by decide +kernel
theorem d11_17 : decode jdk_35_method_49_code 17 = .ok (.iadd, 1) := by decide +kernel
theorem d11_18 : decode jdk_35_method_49_code 18 = .ok (.goto 7, 3) := by decide +kernel
theorem d11_21 : decode jdk_35_method_49_code 21 = .ok (.iload_n 2, 1) := by decide +kernel
theorem d11_22 : decode jdk_35_method_49_code 22 = .ok (.invokestatic 311, 3) := by decide +kernel
theorem d11_25 : decode jdk_35_method_49_code 25 = .ok (.ireturn, 1) := by decide +kernel
theorem pn11 : plainFor (⟨"java/lang/Long", "numberOfTrailingZeros", "(J)I"⟩ : MethodName) = true := plainFor_of_name (by first | (simp [plainName, overriddenIn]; done) | decide +kernel)
theorem pd11 : parseMethodDescriptor "(J)I" = some ⟨[.long], some .int⟩ := by decide +kernel
set_option maxRecDepth 65536 in
set_option maxHeartbeats 40000000 in
theorem rm11 (l : Launch) (Z : State) (a0 : Array Value) (hw : ∀ d ∈ tables_1, d.before a0 Z = true) (p1 : Int64)  (h0 : Heap) (n0 : Nat) (Z0 : n0 ≤ h0.size)  :
    oC l Z n0 (⟨"java/lang/Long", "numberOfTrailingZeros", "(J)I"⟩ : MethodName) jdk_35_method_49_code 3 (some .int) ({ frames := 1, cells := 0, slots := 0, locals := 16 } : Room) 0 0 #[(.long p1)] h0 (fun v h => v = some (.int (Jvm.Free.JP.Long_numberOfTrailingZeros_J.val p1)) ∧ h0 = h) := by
  refine oC.of (L := #[.val (.long p1), .second, .unset]) pn11 Z0 (fun m => by first | (simp [entryFrame, mkF, argsToLocals, Value.category]; done) | rfl) ?_
  intro p e s m below meth c T H
  refine o_lloadN H rfl d11_0 rfl ?_
  refine o_l2i H d11_1 rfl ?_
  refine o_istoreN H (L' := #[.val (.long p1), .second, .val (.int (p1.toInt32))]) rfl d11_2 rfl ?_
  refine o_iloadN H rfl d11_3 rfl ?_
  refine o_if_ne H d11_4 (pt := 21) (by decide) (by decide) rfl ?_ ?_
  · intro c4_1
    refine o_iloadN H rfl d11_21 rfl ?_
    refine o_static H [(.int (p1.toInt32))] [] (rm12 l Z a0 hw (p1.toInt32) h0 n0 H.le) (w59 hw) (w60 hw) (w61 hw) (w62 hw) (by decide) (lenOf pd12 rfl) rfl rfl (by decide) (Nat.le_of_ble_eq_true rfl) (by decide) (by decide) d11_22 rfl ?_
    intro T2 v2 h2 H2 q2
    obtain ⟨rfl, rfl⟩ := q2
    show oG p e below s n0 _ _ _ (T2.setTop (mkF m 25 #[.val (.long p1), .second, .val (.int (p1.toInt32))] [(.int (Jvm.Free.JP.Integer_numberOfTrailingZeros_I.val (p1.toInt32)))]))
    exact o_ireturn H2 rfl d11_25 (by decide) (by decide) ⟨by simp only [Jvm.Free.JP.Long_numberOfTrailingZeros_J.val, c4_1, ↓reduceIte], rfl⟩
  · intro c4_1
    refine o_bipush H (32 : Int32) rfl d11_7 rfl ?_
    refine o_lloadN H rfl d11_9 rfl ?_
    refine o_bipush H (32 : Int32) rfl d11_10 rfl ?_
    refine o_lushr H d11_12 rfl ?_
    refine o_l2i H d11_13 rfl ?_
    refine o_static H [(.int ((XT.ushrL p1 (32 : Int32)).toInt32))] [(.int (32 : Int32))] (rm12 l Z a0 hw ((XT.ushrL p1 (32 : Int32)).toInt32) h0 n0 H.le) (w59 hw) (w60 hw) (w61 hw) (w62 hw) (by decide) (lenOf pd12 rfl) rfl rfl (by decide) (Nat.le_of_ble_eq_true rfl) (by decide) (by decide) d11_14 rfl ?_
    intro T3 v3 h3 H3 q3
    obtain ⟨rfl, rfl⟩ := q3
    show oG p e below s n0 _ _ _ (T3.setTop (mkF m 17 #[.val (.long p1), .second, .val (.int (p1.toInt32))] [(.int (Jvm.Free.JP.Integer_numberOfTrailingZeros_I.val ((XT.ushrL p1 (32 : Int32)).toInt32))), (.int (32 : Int32))]))
    refine o_iadd H3 d11_17 rfl ?_
    refine o_goto H3 d11_18 (pt := 25) (by decide) (by decide) ?_
    exact o_ireturn H3 rfl d11_25 (by decide) (by decide) ⟨by simp only [Jvm.Free.JP.Long_numberOfTrailingZeros_J.val, c4_1, ↓reduceIte], rfl⟩
theorem d1_0 : decode prog_62_method_1_code 0 = .ok (.aload_n 0, 1) := by decide +kernel
theorem d1_1 : decode prog_62_method_1_code 1 = .ok (.invokespecial 3, 3) := by decide +kernel
theorem d1_4 : decode prog_62_method_1_code 4 = .ok (.aload_n 0, 1) := by decide +kernel
theorem d1_5 : decode prog_62_method_1_code 5 = .ok (.iconst 0, 1) := by decide +kernel
theorem d1_6 : decode prog_62_method_1_code 6 = .ok (.anewarray 9, 3) := by decide +kernel
theorem d1_9 : decode prog_62_method_1_code 9 = .ok (.putfield 11, 3) := by decide +kernel
theorem d1_12 : decode prog_62_method_1_code 12 = .ok (.return_, 1) := by decide +kernel
theorem pn1 : plainFor (⟨"com/example/following_sibling/followingsibling/MarkedIndexes", "<init>", "()V"⟩ : MethodName) = true := plainFor_of_name (by first | (simp [plainName, overriddenIn]; done) | decide +kernel)
theorem pd1 : parseMethodDescriptor "()V" = some ⟨[], none⟩ := by decide +kernel
set_option maxRecDepth 65536 in
set_option maxHeartbeats 40000000 in
theorem rm1 (l : Launch) (Z : State) (a0 : Array Value) (hw : ∀ d ∈ tables_1, d.before a0 Z = true) (a1 : Addr)  (h0 : Heap) (n0 : Nat) (Z0 : n0 ≤ h0.size) (E_a1 : Exa Z h0 a1 "com/example/following_sibling/followingsibling/MarkedIndexes") (g_a1 : n0 ≤ a1) (F_levels_a1 : Fld Z h0 a1 "com/example/following_sibling/followingsibling/MarkedIndexes" "levels" "[[J" .null) :
    oC l Z n0 (⟨"com/example/following_sibling/followingsibling/MarkedIndexes", "<init>", "()V"⟩ : MethodName) prog_62_method_1_code 1 none ({ frames := 1, cells := 1, slots := 0, locals := 14 } : Room) 1 0 #[(.ref a1)] h0 (fun v h => v = none ∧ own_M Z h n0 a1 []) := by
  refine oC.of (L := #[.val (.ref a1)]) pn1 Z0 (fun m => by first | (simp [entryFrame, mkF, argsToLocals, Value.category]; done) | rfl) ?_
  intro p e s m below meth c T H
  refine o_aloadN H rfl rfl d1_0 rfl ?_
  refine o_initO H (w7 hw) (w8 hw) (w9 hw) d1_1 rfl rfl (by decide) (Nat.le_of_ble_eq_true rfl) ?_
  intro T1 H2
  refine o_aloadN H2 rfl rfl d1_4 rfl ?_
  refine o_iconst H2 (0 : Int32) rfl d1_5 rfl ?_
  refine o_anewarr H2 0 0 (w10 hw) (w11 hw) (by decide) (by decide) (by decide) d1_6 rfl (by decide) (by decide) ?_
  intro T3 h3 b3 g3 H3 E3 A3 V3
  have ne3_a1 : a1 ≠ b3 := by rw [g3]; exact Nat.ne_of_lt (E_a1).lt
  have z3 : n0 ≤ b3 := by rw [g3]; exact H2.le
  have y3 : h0.size ≤ b3 := by rw [g3]; exact (Keep.refl h0 [a1]).1
  have k4 := (Keep.refl h0 [a1]).ext E3
  have f5 := E_a1.ext E3
  have f6 := F_levels_a1.ext E3
  have AR3 : oA (.array .long) Z h3 b3 [] := A3
  refine o_putF H3 (host := "") (Or.inl (w12 hw)) f6 f5 (Or.inl (w13 hw)) (w2 hw) (ty := (.array (.array .long))) (by decide) rfl rfl g_a1 d1_9 rfl ?_
  intro T7 h7 H7 W7
  have k8 := k4.wr W7 (Or.inl (by simp))
  have f9 := f5.wr W7
  have f10 := f6.same W7
  have f11 := AR3.other W7 (Ne.symm ne3_a1)
  have f12 := V3.wr W7
  exact o_return H7 rfl d1_12 (by decide) (by decide) ⟨rfl, b3, _, f9, g_a1, f10, f11, Or.inl ⟨rfl, rfl⟩⟩
theorem d6_0 : decode jdk_65_method_124_code 0 = .ok (.iload_n 1, 1) := by decide +kernel
theorem d6_1 : decode jdk_65_method_124_code 1 = .ok (.aload_n 0, 1) := by decide +kernel
theorem d6_2 : decode jdk_65_method_124_code 2 = .ok (.arraylength, 1) := by decide +kernel
theorem d6_3 : decode jdk_65_method_124_code 3 = .ok (.if_icmp .ne 11, 3) := by decide +kernel
theorem d6_14 : decode jdk_65_method_124_code 14 = .ok (.iload_n 1, 1) := by decide +kernel
theorem d6_15 : decode jdk_65_method_124_code 15 = .ok (.newarray .long, 2) := by decide +kernel
theorem d6_17 : decode jdk_65_method_124_code 17 = .ok (.astore_n 2, 1) := by decide +kernel
theorem d6_18 : decode jdk_65_method_124_code 18 = .ok (.aload_n 0, 1) := by decide +kernel
theorem d6_19 : decode jdk_65_method_124_code 19 = .ok (.iconst 0, 1) := by decide +kernel
theorem d6_20 : decode jdk_65_method_124_code 20 = .ok (.aload_n 2, 1) := by decide +kernel
theorem d6_21 : decode jdk_65_method_124_code 21 = .ok (.iconst 0, 1) := by decide +kernel
theorem d6_22 : decode jdk_65_method_124_code 22 = .ok (.aload_n 0, 1) := by decide +kernel
theorem d6_23 : decode jdk_65_method_124_code 23 = .ok (.arraylength, 1) := by decide +kernel
theorem d6_24 : decode jdk_65_method_124_code 24 = .ok (.iload_n 1, 1) := by decide +kernel
theorem d6_25 : decode jdk_65_method_124_code 25 = .ok (.invokestatic 304, 3) := by decide +kernel
theorem d6_28 : decode jdk_65_method_124_code 28 = .ok (.invokestatic 150, 3) := by decide +kernel
theorem d6_31 : decode jdk_65_method_124_code 31 = .ok (.aload_n 2, 1) := by decide +kernel
theorem d6_32 : decode jdk_65_method_124_code 32 = .ok (.areturn, 1) := by decide +kernel
theorem pn6 : plainFor (⟨"java/util/Arrays", "copyOf", "([JI)[J"⟩ : MethodName) = true := plainFor_of_name (by first | (simp [plainName, overriddenIn]; done) | decide +kernel)
theorem pd6 : parseMethodDescriptor "([JI)[J" = some ⟨[(.array .long), .int], some (.array .long)⟩ := by decide +kernel
set_option maxRecDepth 65536 in
set_option maxHeartbeats 40000000 in
theorem rm6_130 (l : Launch) (Z : State) (a0 : Array Value) (hw : ∀ d ∈ tables_1, d.before a0 Z = true) (a1 : Addr) (p1 : Int32) (us : List Int64) (N : Nat) (h0 : Heap) (n0 : Nat) (Z0 : n0 ≤ h0.size) (AV : oA .long Z h0 a1 (us.map Value.long)) (hN : p1.toInt = (N : Int)) (hlt : us.length < N) (hNB : N ≤ 130) :
    oC l Z n0 (⟨"java/util/Arrays", "copyOf", "([JI)[J"⟩ : MethodName) jdk_65_method_124_code 3 (some (.array .long)) ({ frames := 1, cells := 1, slots := 130, locals := 20 } : Room) 1 130 #[(.ref a1), (.int p1)] h0 (fun v h => ∃ r, v = some (.ref r) ∧ Keep h0 h [] ∧ oA .long Z h r ((us ++ List.replicate (N - us.length) (0 : Int64)).map Value.long) ∧ Exa Z h r "[J" ∧ n0 ≤ r ∧ h0.size ≤ r) := by
  refine oC.of (L := #[.val (.ref a1), .val (.int p1), .unset]) pn6 Z0 (fun m => by first | (simp [entryFrame, mkF, argsToLocals, Value.category]; done) | rfl) ?_
  intro p e s m below meth c T H
  have hz : (us.length.toInt32).toInt = (us.length : Int) := own_nl (by omega)
  refine o_iloadN H rfl d6_0 rfl ?_
  refine o_aloadN H rfl rfl d6_1 rfl ?_
  refine o_arraylength H (us.length.toInt32) AV (by rw [List.length_map]) d6_2 rfl ?_
  refine o_icmp_t H d6_3 (XT.ii_ne_t (by rw [n_eq, hN, hz]; omega)) (pt := 14) (by decide) (by decide) ?_
  refine o_iloadN H rfl d6_14 rfl ?_
  refine o_newarrE (aty := .long) H 130 N (w23 hw) hN hNB (by decide) d6_15 rfl (by decide) (by decide) (ad := "[J") (by decide) ?_
  intro T1 h1 b1 g1 H1 E1 A1 X1
  have ne1_a1 : a1 ≠ b1 := by rw [g1]; exact Nat.ne_of_lt (AV).lt
  have z1 : n0 ≤ b1 := by rw [g1]; exact H.le
  have y1 : h0.size ≤ b1 := by rw [g1]; exact (Keep.refl h0 []).1
  have k2 := (Keep.refl h0 []).ext E1
  have f3 := AV.ext E1
  have AZ1 : oA .long Z h1 b1 ((List.replicate N (0 : Int64)).map Value.long) := by rw [List.map_replicate]; exact A1
  refine o_astoreN H1 (L' := #[.val (.ref a1), .val (.int p1), .val (.ref b1)]) rfl rfl d6_17 rfl ?_
  refine o_aloadN H1 rfl rfl d6_18 rfl ?_
  refine o_iconst H1 (0 : Int32) rfl d6_19 rfl ?_
  refine o_aloadN H1 rfl rfl d6_20 rfl ?_
  refine o_iconst H1 (0 : Int32) rfl d6_21 rfl ?_
  refine o_aloadN H1 rfl rfl d6_22 rfl ?_
  refine o_arraylength H1 (us.length.toInt32) f3 (by rw [List.length_map]) d6_23 rfl ?_
  refine o_iloadN H1 rfl d6_24 rfl ?_
  refine o_static H1 [(.int (us.length.toInt32)), (.int p1)] [(.int (0 : Int32)), (.ref b1), (.int (0 : Int32)), (.ref a1)] ((rm7 l Z a0 hw (us.length.toInt32) p1 h1 n0 H1.le).mono (fun v h q => (⟨q.1.trans (by rw [own_mn, if_neg (by rw [n_lt, hN, hz]; omega)]), q.2⟩ : v = some (.int us.length.toInt32) ∧ h1 = h))) (w32 hw) (w33 hw) (w26 hw) (w34 hw) (by decide) (lenOf pd7 rfl) rfl rfl (by decide) (Nat.le_of_ble_eq_true rfl) (by decide) (by decide) d6_25 rfl ?_
  intro T4 v4 h4 H4 q4
  obtain ⟨rfl, rfl⟩ := q4
  show oG p e below s n0 _ _ _ (T4.setTop (mkF m 28 #[.val (.ref a1), .val (.int p1), .val (.ref b1)] [(.int (us.length.toInt32)), (.int (0 : Int32)), (.ref b1), (.int (0 : Int32)), (.ref a1)]))
  refine o_acopy H4 (w35 hw) (w38 hw) (w36 hw) (w37 hw) f3 AZ1 hz (Nat.le_of_lt hlt) (by omega) z1 d6_28 rfl rfl (by decide) (by decide) ?_
  intro T5 h5 H5 K5 A5
  have k6 := k2.trans K5 (allS (Or.inr y1) all0)
  have f7 := X1.keep K5
  show oG p e below s n0 _ _ _ (T5.setTop (mkF m 31 #[.val (.ref a1), .val (.int p1), .val (.ref b1)] []))
  refine o_aloadN H5 rfl rfl d6_31 rfl ?_
  exact o_areturn H5 rfl rfl rfl rfl d6_32 (by decide) (by decide) ⟨_, rfl, k6, A5, f7, z1, y1⟩
set_option maxRecDepth 65536 in
set_option maxHeartbeats 40000000 in
theorem rm6_1024 (l : Launch) (Z : State) (a0 : Array Value) (hw : ∀ d ∈ tables_1, d.before a0 Z = true) (a1 : Addr) (p1 : Int32) (us : List Int64) (N : Nat) (h0 : Heap) (n0 : Nat) (Z0 : n0 ≤ h0.size) (AV : oA .long Z h0 a1 (us.map Value.long)) (hN : p1.toInt = (N : Int)) (hlt : us.length < N) (hNB : N ≤ 1024) :
    oC l Z n0 (⟨"java/util/Arrays", "copyOf", "([JI)[J"⟩ : MethodName) jdk_65_method_124_code 3 (some (.array .long)) ({ frames := 1, cells := 1, slots := 1024, locals := 20 } : Room) 1 1024 #[(.ref a1), (.int p1)] h0 (fun v h => ∃ r, v = some (.ref r) ∧ Keep h0 h [] ∧ oA .long Z h r ((us ++ List.replicate (N - us.length) (0 : Int64)).map Value.long) ∧ Exa Z h r "[J" ∧ n0 ≤ r ∧ h0.size ≤ r) := by
  refine oC.of (L := #[.val (.ref a1), .val (.int p1), .unset]) pn6 Z0 (fun m => by first | (simp [entryFrame, mkF, argsToLocals, Value.category]; done) | rfl) ?_
  intro p e s m below meth c T H
  have hz : (us.length.toInt32).toInt = (us.length : Int) := own_nl (by omega)
  refine o_iloadN H rfl d6_0 rfl ?_
  refine o_aloadN H rfl rfl d6_1 rfl ?_
  refine o_arraylength H (us.length.toInt32) AV (by rw [List.length_map]) d6_2 rfl ?_
  refine o_icmp_t H d6_3 (XT.ii_ne_t (by rw [n_eq, hN, hz]; omega)) (pt := 14) (by decide) (by decide) ?_
  refine o_iloadN H rfl d6_14 rfl ?_
  refine o_newarrE (aty := .long) H 1024 N (w23 hw) hN hNB (by decide) d6_15 rfl (by decide) (by decide) (ad := "[J") (by decide) ?_
  intro T1 h1 b1 g1 H1 E1 A1 X1
  have ne1_a1 : a1 ≠ b1 := by rw [g1]; exact Nat.ne_of_lt (AV).lt
  have z1 : n0 ≤ b1 := by rw [g1]; exact H.le
  have y1 : h0.size ≤ b1 := by rw [g1]; exact (Keep.refl h0 []).1
  have k2 := (Keep.refl h0 []).ext E1
  have f3 := AV.ext E1
  have AZ1 : oA .long Z h1 b1 ((List.replicate N (0 : Int64)).map Value.long) := by rw [List.map_replicate]; exact A1
  refine o_astoreN H1 (L' := #[.val (.ref a1), .val (.int p1), .val (.ref b1)]) rfl rfl d6_17 rfl ?_
  refine o_aloadN H1 rfl rfl d6_18 rfl ?_
  refine o_iconst H1 (0 : Int32) rfl d6_19 rfl ?_
  refine o_aloadN H1 rfl rfl d6_20 rfl ?_
  refine o_iconst H1 (0 : Int32) rfl d6_21 rfl ?_
  refine o_aloadN H1 rfl rfl d6_22 rfl ?_
  refine o_arraylength H1 (us.length.toInt32) f3 (by rw [List.length_map]) d6_23 rfl ?_
  refine o_iloadN H1 rfl d6_24 rfl ?_
  refine o_static H1 [(.int (us.length.toInt32)), (.int p1)] [(.int (0 : Int32)), (.ref b1), (.int (0 : Int32)), (.ref a1)] ((rm7 l Z a0 hw (us.length.toInt32) p1 h1 n0 H1.le).mono (fun v h q => (⟨q.1.trans (by rw [own_mn, if_neg (by rw [n_lt, hN, hz]; omega)]), q.2⟩ : v = some (.int us.length.toInt32) ∧ h1 = h))) (w32 hw) (w33 hw) (w26 hw) (w34 hw) (by decide) (lenOf pd7 rfl) rfl rfl (by decide) (Nat.le_of_ble_eq_true rfl) (by decide) (by decide) d6_25 rfl ?_
  intro T4 v4 h4 H4 q4
  obtain ⟨rfl, rfl⟩ := q4
  show oG p e below s n0 _ _ _ (T4.setTop (mkF m 28 #[.val (.ref a1), .val (.int p1), .val (.ref b1)] [(.int (us.length.toInt32)), (.int (0 : Int32)), (.ref b1), (.int (0 : Int32)), (.ref a1)]))
  refine o_acopy H4 (w35 hw) (w38 hw) (w36 hw) (w37 hw) f3 AZ1 hz (Nat.le_of_lt hlt) (by omega) z1 d6_28 rfl rfl (by decide) (by decide) ?_
  intro T5 h5 H5 K5 A5
  have k6 := k2.trans K5 (allS (Or.inr y1) all0)
  have f7 := X1.keep K5
  show oG p e below s n0 _ _ _ (T5.setTop (mkF m 31 #[.val (.ref a1), .val (.int p1), .val (.ref b1)] []))
  refine o_aloadN H5 rfl rfl d6_31 rfl ?_
  exact o_areturn H5 rfl rfl rfl rfl d6_32 (by decide) (by decide) ⟨_, rfl, k6, A5, f7, z1, y1⟩
theorem d4_0 : decode prog_62_method_8_code 0 = .ok (.aload_n 0, 1) := by decide +kernel
theorem d4_1 : decode prog_62_method_8_code 1 = .ok (.getfield 11, 3) := by decide +kernel
theorem d4_4 : decode prog_62_method_8_code 4 = .ok (.arraylength, 1) := by decide +kernel
theorem d4_5 : decode prog_62_method_8_code 5 = .ok (.ifCond .ne 7, 3) := by decide +kernel
theorem d4_8 : decode prog_62_method_8_code 8 = .ok (.iconst 0, 1) := by decide +kernel
theorem d4_9 : decode prog_62_method_8_code 9 = .ok (.goto 13, 3) := by decide +kernel
theorem d4_12 : decode prog_62_method_8_code 12 = .ok (.aload_n 0, 1) := by decide +kernel
theorem d4_13 : decode prog_62_method_8_code 13 = .ok (.getfield 11, 3) := by decide +kernel
theorem d4_16 : decode prog_62_method_8_code 16 = .ok (.iconst 0, 1) := by decide +kernel
theorem d4_17 : decode prog_62_method_8_code 17 = .ok (.aaload, 1) := by decide +kernel
theorem d4_18 : decode prog_62_method_8_code 18 = .ok (.arraylength, 1) := by decide +kernel
theorem d4_19 : decode prog_62_method_8_code 19 = .ok (.bipush 64, 2) := by decide +kernel
theorem d4_21 : decode prog_62_method_8_code 21 = .ok (.imul, 1) := by decide +kernel
theorem d4_22 : decode prog_62_method_8_code 22 = .ok (.istore_n 2, 1) := by decide +kernel
theorem d4_23 : decode prog_62_method_8_code 23 = .ok (.aload_n 0, 1) := by decide +kernel
theorem d4_24 : decode prog_62_method_8_code 24 = .ok (.getfield 11, 3) := by decide +kernel
theorem d4_27 : decode prog_62_method_8_code 27 = .ok (.arraylength, 1) := by decide +kernel
theorem d4_28 : decode prog_62_method_8_code 28 = .ok (.ifCond .ne 9, 3) := by decide +kernel
theorem d4_31 : decode prog_62_method_8_code 31 = .ok (.iconst 0, 1) := by decide +kernel
theorem d4_32 : decode prog_62_method_8_code 32 = .ok (.newarray .long, 2) := by decide +kernel
theorem d4_34 : decode prog_62_method_8_code 34 = .ok (.goto 9, 3) := by decide +kernel
theorem d4_37 : decode prog_62_method_8_code 37 = .ok (.aload_n 0, 1) := by decide +kernel
theorem d4_38 : decode prog_62_method_8_code 38 = .ok (.getfield 11, 3) := by decide +kernel
theorem d4_41 : decode prog_62_method_8_code 41 = .ok (.iconst 0, 1) := by decide +kernel
theorem d4_42 : decode prog_62_method_8_code 42 = .ok (.aaload, 1) := by decide +kernel
theorem d4_43 : decode prog_62_method_8_code 43 = .ok (.iload_n 1, 1) := by decide +kernel
theorem d4_44 : decode prog_62_method_8_code 44 = .ok (.iconst 2, 1) := by decide +kernel
theorem d4_45 : decode prog_62_method_8_code 45 = .ok (.iload_n 2, 1) := by decide +kernel
theorem d4_46 : decode prog_62_method_8_code 46 = .ok (.imul, 1) := by decide +kernel
theorem d4_47 : decode prog_62_method_8_code 47 = .ok (.invokestatic 50, 3) := by decide +kernel
theorem d4_50 : decode prog_62_method_8_code 50 = .ok (.bipush 64, 2) := by decide +kernel
theorem d4_52 : decode prog_62_method_8_code 52 = .ok (.iadd, 1) := by decide +kernel
theorem d4_53 : decode prog_62_method_8_code 53 = .ok (.iconst 1, 1) := by decide +kernel
theorem d4_54 : decode prog_62_method_8_code 54 = .ok (.isub, 1) := by decide +kernel
theorem d4_55 : decode prog_62_method_8_code 55 = .ok (.bipush 64, 2) := by decide +kernel
theorem d4_57 : decode prog_62_method_8_code 57 = .ok (.idiv, 1) := by decide +kernel
theorem d4_58 : decode prog_62_method_8_code 58 = .ok (.invokestatic 53, 3) := by decide +kernel
theorem d4_61 : decode prog_62_method_8_code 61 = .ok (.astore_n 3, 1) := by decide +kernel
theorem d4_62 : decode prog_62_method_8_code 62 = .ok (.iconst 1, 1) := by decide +kernel
theorem d4_63 : decode prog_62_method_8_code 63 = .ok (.istore 4, 2) := by decide +kernel
theorem d4_65 : decode prog_62_method_8_code 65 = .ok (.aload_n 3, 1) := by decide +kernel
theorem d4_66 : decode prog_62_method_8_code 66 = .ok (.arraylength, 1) := by decide +kernel
theorem d4_67 : decode prog_62_method_8_code 67 = .ok (.istore 5, 2) := by decide +kernel
theorem d4_69 : decode prog_62_method_8_code 69 = .ok (.iload 5, 2) := by decide +kernel
theorem d4_71 : decode prog_62_method_8_code 71 = .ok (.iconst 1, 1) := by decide +kernel
theorem d4_72 : decode prog_62_method_8_code 72 = .ok (.if_icmp .le 21, 3) := by decide +kernel
theorem d4_75 : decode prog_62_method_8_code 75 = .ok (.iinc 4 1, 3) := by decide +kernel
theorem d4_78 : decode prog_62_method_8_code 78 = .ok (.iload 5, 2) := by decide +kernel
theorem d4_80 : decode prog_62_method_8_code 80 = .ok (.bipush 64, 2) := by decide +kernel
theorem d4_82 : decode prog_62_method_8_code 82 = .ok (.iadd, 1) := by decide +kernel
theorem d4_83 : decode prog_62_method_8_code 83 = .ok (.iconst 1, 1) := by decide +kernel
theorem d4_84 : decode prog_62_method_8_code 84 = .ok (.isub, 1) := by decide +kernel
theorem d4_85 : decode prog_62_method_8_code 85 = .ok (.bipush 64, 2) := by decide +kernel
theorem d4_87 : decode prog_62_method_8_code 87 = .ok (.idiv, 1) := by decide +kernel
theorem d4_88 : decode prog_62_method_8_code 88 = .ok (.istore 5, 2) := by decide +kernel
theorem d4_90 : decode prog_62_method_8_code 90 = .ok (.goto (-21), 3) := by decide +kernel
theorem d4_93 : decode prog_62_method_8_code 93 = .ok (.iload 4, 2) := by decide +kernel
theorem d4_95 : decode prog_62_method_8_code 95 = .ok (.anewarray 9, 3) := by decide +kernel
theorem d4_98 : decode prog_62_method_8_code 98 = .ok (.astore 5, 2) := by decide +kernel
theorem d4_100 : decode prog_62_method_8_code 100 = .ok (.aload 5, 2) := by decide +kernel
theorem d4_102 : decode prog_62_method_8_code 102 = .ok (.iconst 0, 1) := by decide +kernel
theorem d4_103 : decode prog_62_method_8_code 103 = .ok (.aload_n 3, 1) := by decide +kernel
theorem d4_104 : decode prog_62_method_8_code 104 = .ok (.aastore, 1) := by decide +kernel
theorem d4_105 : decode prog_62_method_8_code 105 = .ok (.iconst 1, 1) := by decide +kernel
theorem d4_106 : decode prog_62_method_8_code 106 = .ok (.istore 6, 2) := by decide +kernel
theorem d4_108 : decode prog_62_method_8_code 108 = .ok (.iload 6, 2) := by decide +kernel
theorem d4_110 : decode prog_62_method_8_code 110 = .ok (.iload 4, 2) := by decide +kernel
theorem d4_112 : decode prog_62_method_8_code 112 = .ok (.if_icmp .ge 84, 3) := by decide +kernel
theorem d4_115 : decode prog_62_method_8_code 115 = .ok (.aload 5, 2) := by decide +kernel
theorem d4_117 : decode prog_62_method_8_code 117 = .ok (.iload 6, 2) := by decide +kernel
theorem d4_119 : decode prog_62_method_8_code 119 = .ok (.iconst 1, 1) := by decide +kernel
theorem d4_120 : decode prog_62_method_8_code 120 = .ok (.isub, 1) := by decide +kernel
theorem d4_121 : decode prog_62_method_8_code 121 = .ok (.aaload, 1) := by decide +kernel
theorem d4_122 : decode prog_62_method_8_code 122 = .ok (.astore 7, 2) := by decide +kernel
theorem d4_124 : decode prog_62_method_8_code 124 = .ok (.aload 7, 2) := by decide +kernel
theorem d4_126 : decode prog_62_method_8_code 126 = .ok (.arraylength, 1) := by decide +kernel
theorem d4_127 : decode prog_62_method_8_code 127 = .ok (.bipush 64, 2) := by decide +kernel
theorem d4_129 : decode prog_62_method_8_code 129 = .ok (.iadd, 1) := by decide +kernel
theorem d4_130 : decode prog_62_method_8_code 130 = .ok (.iconst 1, 1) := by decide +kernel
theorem d4_131 : decode prog_62_method_8_code 131 = .ok (.isub, 1) := by decide +kernel
theorem d4_132 : decode prog_62_method_8_code 132 = .ok (.bipush 64, 2) := by decide +kernel
theorem d4_134 : decode prog_62_method_8_code 134 = .ok (.idiv, 1) := by decide +kernel
theorem d4_135 : decode prog_62_method_8_code 135 = .ok (.newarray .long, 2) := by decide +kernel
theorem d4_137 : decode prog_62_method_8_code 137 = .ok (.astore 8, 2) := by decide +kernel
theorem d4_139 : decode prog_62_method_8_code 139 = .ok (.iconst 0, 1) := by decide +kernel
theorem d4_140 : decode prog_62_method_8_code 140 = .ok (.istore 9, 2) := by decide +kernel
theorem d4_142 : decode prog_62_method_8_code 142 = .ok (.iload 9, 2) := by decide +kernel
theorem d4_144 : decode prog_62_method_8_code 144 = .ok (.aload 7, 2) := by decide +kernel
theorem d4_146 : decode prog_62_method_8_code 146 = .ok (.arraylength, 1) := by decide +kernel
theorem d4_147 : decode prog_62_method_8_code 147 = .ok (.if_icmp .ge 36, 3) := by decide +kernel
theorem d4_150 : decode prog_62_method_8_code 150 = .ok (.aload 7, 2) := by decide +kernel
theorem d4_152 : decode prog_62_method_8_code 152 = .ok (.iload 9, 2) := by decide +kernel
theorem d4_154 : decode prog_62_method_8_code 154 = .ok (.laload, 1) := by decide +kernel
theorem d4_155 : decode prog_62_method_8_code 155 = .ok (.ldc2_w 29, 3) := by decide +kernel
theorem d4_158 : decode prog_62_method_8_code 158 = .ok (.lcmp, 1) := by decide +kernel
theorem d4_159 : decode prog_62_method_8_code 159 = .ok (.ifCond .ne 18, 3) := by decide +kernel
theorem d4_177 : decode prog_62_method_8_code 177 = .ok (.iinc 9 1, 3) := by decide +kernel
theorem d4_180 : decode prog_62_method_8_code 180 = .ok (.goto (-38), 3) := by decide +kernel
theorem d4_183 : decode prog_62_method_8_code 183 = .ok (.aload 5, 2) := by decide +kernel
theorem d4_185 : decode prog_62_method_8_code 185 = .ok (.iload 6, 2) := by decide +kernel
theorem d4_187 : decode prog_62_method_8_code 187 = .ok (.aload 8, 2) := by decide +kernel
theorem d4_189 : decode prog_62_method_8_code 189 = .ok (.aastore, 1) := by decide +kernel
theorem d4_190 : decode prog_62_method_8_code 190 = .ok (.iinc 6 1, 3) := by decide +kernel
theorem d4_193 : decode prog_62_method_8_code 193 = .ok (.goto (-85), 3) := by decide +kernel
theorem d4_196 : decode prog_62_method_8_code 196 = .ok (.aload_n 0, 1) := by decide +kernel
theorem d4_197 : decode prog_62_method_8_code 197 = .ok (.aload 5, 2) := by decide +kernel
theorem d4_199 : decode prog_62_method_8_code 199 = .ok (.putfield 11, 3) := by decide +kernel
theorem d4_202 : decode prog_62_method_8_code 202 = .ok (.return_, 1) := by decide +kernel
theorem pn4 : plainFor (⟨"com/example/following_sibling/followingsibling/MarkedIndexes", "grow", "(I)V"⟩ : MethodName) = true := plainFor_of_name (by first | (simp [plainName, overriddenIn]; done) | decide +kernel)
theorem pd4 : parseMethodDescriptor "(I)V" = some ⟨[.int], none⟩ := by decide +kernel
theorem own_p1' {x : Int32} {X : Nat} (hx : x.toInt = (X : Int)) (hl : X + 1 < 2147483648) : (x + 1).toInt = ((X + 1 : Nat) : Int) := by
  have h1 := c_iadd x 1; have h2 := rng32 (x + 1); have e1 : (1 : Int32).toInt = 1 := rfl; omega
theorem own_fz {ws : List Int64} (n : Nat) (h : ∀ k, ¬ ws.getD k 0 = -1) (k : Nat) : ¬ (ws ++ List.replicate n (0 : Int64)).getD k 0 = -1 := by
  by_cases c : k < ws.length
  · have e : (ws ++ List.replicate n (0 : Int64)).getD k 0 = ws.getD k 0 := by simp only [List.getD_eq_getElem?_getD, List.getElem?_append_left c]
    rw [e]; exact h k
  · have e : (ws ++ List.replicate n (0 : Int64)).getD k 0 = 0 := by
      rw [List.getD_eq_getElem?_getD, List.getElem?_append_right (by omega), List.getElem?_replicate]
      split <;> rfl
    rw [e]; decide
theorem own_fr (n k : Nat) : ¬ (List.replicate n (0 : Int64)).getD k 0 = -1 := by
  have e : (List.replicate n (0 : Int64)).getD k 0 = 0 := by
    rw [List.getD_eq_getElem?_getD, List.getElem?_replicate]
    split <;> rfl
  rw [e]; decide
set_option maxRecDepth 65536 in
set_option maxHeartbeats 40000000 in
theorem rmG_130 (l : Launch) (Z : State) (a0 : Array Value) (hw : ∀ d ∈ tables_1, d.before a0 Z = true) (a1 r3 l5 q7 w8 : Addr) (p1 o2 c4 i6 zl : Int32) (us : List Int64) (Q : Option Value → Heap → Prop) (h : Heap) (n0 cc ss : Nat) (AQ : oA .long Z h q7 (us.map Value.long)) (hz : zl.toInt = (us.length : Int)) (hne : ∀ k, ¬ us.getD k 0 = -1) (p : Program) (e : Env) (s : State) (m : MethodId) (below : List Frame) (meth : Method) (c : Code) (T : State) (H : oH p l e ({ frames := 3, cells := 5, slots := 160, locals := 60 } : Room) s m #[.ref a1, .int p1] below meth c prog_62_method_8_code 10 (⟨"com/example/following_sibling/followingsibling/MarkedIndexes", "grow", "(I)V"⟩ : MethodName) none Z n0 T h cc ss) (K : oG p e below s n0 5 160 (Q) (T.setTop (mkF m 183 #[.val (.ref a1), .val (.int p1), .val (.int o2), .val (.ref r3), .val (.int c4), .val (.ref l5), .val (.int i6), .val (.ref q7), .val (.ref w8), .val (.int zl)] []))) :
    ∀ (d j : Nat) (yy : Int32), j + d = us.length → yy.toInt = (j : Int) → oG p e below s n0 5 160 (Q) (T.setTop (mkF m 142 #[.val (.ref a1), .val (.int p1), .val (.int o2), .val (.ref r3), .val (.int c4), .val (.ref l5), .val (.int i6), .val (.ref q7), .val (.ref w8), .val (.int yy)] [])) := by
  intro d
  induction d with
  | zero =>
    intro j yy hd hy
    refine o_iload H rfl d4_142 rfl ?_
    refine o_aload H rfl rfl d4_144 rfl ?_
    refine o_arraylength H zl AQ (own_ln hz (by rw [List.length_map])) d4_146 rfl ?_
    refine o_icmp_t H d4_147 (XT.ii_ge_t (by rw [own_inx hy hz]; omega)) (pt := 183) (by decide) (by decide) ?_
    obtain rfl : yy = zl := by rw [n_eq, hy, hz]; omega
    exact K
  | succ d ih =>
    intro j yy hd hy
    have hj : j < us.length := by omega
    have hl := own_nl (n := us.length)
    refine o_iload H rfl d4_142 rfl ?_
    refine o_aload H rfl rfl d4_144 rfl ?_
    refine o_arraylength H zl AQ (own_ln hz (by rw [List.length_map])) d4_146 rfl ?_
    refine o_icmp_f H d4_147 (XT.ii_ge_f ((own_inx hy hz).mpr hj)) rfl ?_
    refine o_aload H rfl rfl d4_150 rfl ?_
    refine o_iload H rfl d4_152 rfl ?_
    refine o_laload H j (.long (us.getD j 0)) AQ hy (own_get hj) d4_154 rfl ?_
    refine o_ldcJ H (-1 : Int64) (w40 hw) d4_155 rfl ?_
    refine o_lcmp H d4_158 rfl ?_
    refine o_ifl_ne H d4_159 (pt := 177) (by decide) (by decide) rfl ?_ ?_
    · intro c159_1
      refine o_iinc H (1 : Int32) (yy + (1 : Int32)) rfl rfl rfl (L' := #[.val (.ref a1), .val (.int p1), .val (.int o2), .val (.ref r3), .val (.int c4), .val (.ref l5), .val (.int i6), .val (.ref q7), .val (.ref w8), .val (.int (yy + (1 : Int32)))]) rfl d4_177 rfl ?_
      refine o_goto H d4_180 (pt := 142) (by decide) (by decide) ?_
      exact ih (j + 1) (yy + 1) (by omega) (own_p1' hy (by have := Int32.toInt_lt zl; omega))
    · intro c159_1
      exact absurd c159_1 (hne j)
set_option maxRecDepth 65536 in
set_option maxHeartbeats 40000000 in
theorem rm4_130 (l : Launch) (Z : State) (a0 : Array Value) (hw : ∀ d ∈ tables_1, d.before a0 Z = true) (a1 : Addr) (p1 : Int32) (ws : List Int64) (i : Nat) (h0 : Heap) (n0 : Nat) (Z0 : n0 ≤ h0.size) (MM : own_M Z h0 n0 a1 ws) (hp : p1.toInt = ((i + 1 : Nat) : Int)) (hi : i < 4223) (hn0 : ws.length ≤ 130) (hg : 64 * ws.length ≤ i) (hf : ∀ k, ¬ ws.getD k 0 = -1) :
    oC l Z n0 (⟨"com/example/following_sibling/followingsibling/MarkedIndexes", "grow", "(I)V"⟩ : MethodName) prog_62_method_8_code 10 none ({ frames := 3, cells := 5, slots := 160, locals := 60 } : Room) 5 160 #[(.ref a1), (.int p1)] h0 (fun v h => v = none ∧ ∃ ws2, own_M Z h n0 a1 ws2 ∧ ws2.length ≤ 130 ∧ i / 64 < ws2.length ∧ ∃ k, ws2 = ws ++ List.replicate k (0 : Int64)) := by
  refine oC.of (L := #[.val (.ref a1), .val (.int p1), .unset, .unset, .unset, .unset, .unset, .unset, .unset, .unset]) pn4 Z0 (fun m => by first | (simp [entryFrame, mkF, argsToLocals, Value.category]; done) | rfl) ?_
  intro p e s m below meth c T H
  have MM0 := MM
  obtain ⟨la, vs, E_a1, g_a1, FL, AL, hc⟩ := MM
  rcases hc with ⟨rfl, rfl⟩ | ⟨w0, rest, rfl, hne, A0, g_w0, nwa, nwl, hup⟩
  · skip
    refine o_aloadN H rfl rfl d4_0 rfl ?_
    refine o_getF H (host := "") (Or.inl (w12 hw)) FL d4_1 rfl ?_
    intro T1 H2
    refine o_arraylength H2 (0 : Int32) AL rfl d4_4 rfl ?_
    refine o_if_f H2 d4_5 (by decide) rfl ?_
    refine o_iconst H2 (0 : Int32) rfl d4_8 rfl ?_
    refine o_goto H2 d4_9 (pt := 22) (by decide) (by decide) ?_
    refine o_istoreN H2 (L' := #[.val (.ref a1), .val (.int p1), .val (.int (0 : Int32)), .unset, .unset, .unset, .unset, .unset, .unset, .unset]) rfl d4_22 rfl ?_
    refine o_aloadN H2 rfl rfl d4_23 rfl ?_
    refine o_getF H2 (host := "") (Or.inl (w12 hw)) FL d4_24 rfl ?_
    intro T3 H4
    refine o_arraylength H4 (0 : Int32) AL rfl d4_27 rfl ?_
    refine o_if_f H4 d4_28 (by decide) rfl ?_
    refine o_iconst H4 (0 : Int32) rfl d4_31 rfl ?_
    refine o_newarrE (aty := .long) H4 0 0 (w23 hw) (by decide) (by decide) (by decide) d4_32 rfl (by decide) (by decide) (ad := "[J") (by decide) ?_
    intro T5 h5 b5 g5 H5 E5 A5 X5
    have ne5_a1 : a1 ≠ b5 := by rw [g5]; exact Nat.ne_of_lt (E_a1).lt
    have ne5_la : la ≠ b5 := by rw [g5]; exact Nat.ne_of_lt (AL).lt
    have z5 : n0 ≤ b5 := by rw [g5]; exact H4.le
    have f6 := E_a1.ext E5
    have f7 := FL.ext E5
    have f8 := AL.ext E5
    have AZ5 : oA .long Z h5 b5 ((List.replicate 0 (0 : Int64)).map Value.long) := by rw [List.map_replicate]; exact A5
    refine o_goto H5 d4_34 (pt := 43) (by decide) (by decide) ?_
    refine o_iloadN H5 rfl d4_43 rfl ?_
    refine o_iconst H5 (2 : Int32) rfl d4_44 rfl ?_
    refine o_iloadN H5 rfl d4_45 rfl ?_
    refine o_imul H5 d4_46 rfl ?_
    refine o_static H5 [(.int p1), (.int ((2 : Int32) * (0 : Int32)))] [(.ref b5)] (rm5 l Z a0 hw p1 ((2 : Int32) * (0 : Int32)) h5 n0 H5.le) (w24 hw) (w25 hw) (w26 hw) (w27 hw) (by decide) (lenOf pd5 rfl) rfl rfl (by decide) (Nat.le_of_ble_eq_true rfl) (by decide) (by decide) d4_47 rfl ?_
    intro T9 v9 h9 H9 q9
    obtain ⟨rfl, rfl⟩ := q9
    show oG p e below s n0 _ _ _ (T9.setTop (mkF m 50 #[.val (.ref a1), .val (.int p1), .val (.int (0 : Int32)), .unset, .unset, .unset, .unset, .unset, .unset, .unset] [(.int (own_mx p1 ((2 : Int32) * (0 : Int32)))), (.ref b5)]))
    refine o_bipush H9 (64 : Int32) rfl d4_50 rfl ?_
    refine o_iadd H9 d4_52 rfl ?_
    refine o_iconst H9 (1 : Int32) rfl d4_53 rfl ?_
    refine o_isub H9 d4_54 rfl ?_
    refine o_bipush H9 (64 : Int32) rfl d4_55 rfl ?_
    refine o_idiv H9 (by decide) d4_57 rfl ?_
    obtain ⟨nn, e_nn⟩ : ∃ z : Int32, z = ((((own_mx p1 ((2 : Int32) * (0 : Int32))) + (64 : Int32)) - (1 : Int32)) / (64 : Int32)) := ⟨_, rfl⟩
    rw [← e_nn]
    obtain ⟨N, hN, hlt, hiN, h1N, h1024, h130⟩ := own_gN (p := p1) (old := (0 : Int32)) (i := i) (n := 0) hp rfl (by omega) (by omega) (by omega)
    rw [← e_nn] at hN
    have hNB : N ≤ 130 := by omega
    clear e_nn
    refine o_static H9 [(.ref b5), (.int nn)] [] (rm6_130 l Z a0 hw b5 nn ([] : List Int64) N h5 n0 H9.le AZ5 hN hlt hNB) (w28 hw) (w29 hw) (w30 hw) (w31 hw) (by decide) (lenOf pd6 rfl) rfl rfl (by decide) (Nat.le_of_ble_eq_true rfl) (by decide) (by decide) d4_58 rfl ?_
    intro T10 v10 h10 H10 q10
    obtain ⟨r10, rfl, K10, A10, X10, z10, y10⟩ := q10
    have na10 : a1 ≠ r10 := Nat.ne_of_lt (Nat.lt_of_lt_of_le (f6).lt y10)
    have f11 := f6.keep K10
    have f12 := f7.keep K10 nin0
    have hrl : (([] : List Int64) ++ List.replicate (N - ([] : List Int64).length) (0 : Int64)).length = N := by rw [List.length_append, List.length_replicate]; simp
    show oG p e below s n0 _ _ _ (T10.setTop (mkF m 61 #[.val (.ref a1), .val (.int p1), .val (.int (0 : Int32)), .unset, .unset, .unset, .unset, .unset, .unset, .unset] [(.ref r10)]))
    refine o_astoreN H10 (L' := #[.val (.ref a1), .val (.int p1), .val (.int (0 : Int32)), .val (.ref r10), .unset, .unset, .unset, .unset, .unset, .unset]) rfl rfl d4_61 rfl ?_
    refine o_iconst H10 (1 : Int32) rfl d4_62 rfl ?_
    refine o_istore H10 (L' := #[.val (.ref a1), .val (.int p1), .val (.int (0 : Int32)), .val (.ref r10), .val (.int (1 : Int32)), .unset, .unset, .unset, .unset, .unset]) rfl d4_63 rfl ?_
    refine o_aloadN H10 rfl rfl d4_65 rfl ?_
    refine o_arraylength H10 nn A10 (own_ln hN (by rw [List.length_map]; exact hrl)) d4_66 rfl ?_
    refine o_istore H10 (L' := #[.val (.ref a1), .val (.int p1), .val (.int (0 : Int32)), .val (.ref r10), .val (.int (1 : Int32)), .val (.int nn), .unset, .unset, .unset, .unset]) rfl d4_67 rfl ?_
    have cN : N = 1 ∨ (2 ≤ N ∧ N ≤ 64) ∨ (65 ≤ N ∧ N ≤ 1024) := by omega
    rcases cN with cN | cN | cN
    · skip
      refine o_iload H10 rfl d4_69 rfl ?_
      refine o_iconst H10 (1 : Int32) rfl d4_71 rfl ?_
      refine o_icmp_t H10 d4_72 (XT.ii_le_t (own_lt1 hN (by omega))) (pt := 93) (by decide) (by decide) ?_
      refine o_iload H10 rfl d4_93 rfl ?_
      refine o_anewarr H10 3 1 (w10 hw) (w11 hw) (by decide) (by decide) (by decide) d4_95 rfl (by decide) (by decide) ?_
      intro T13 h13 b13 g13 H13 E13 A13 V13
      have ne13_a1 : a1 ≠ b13 := by rw [g13]; exact Nat.ne_of_lt (f11).lt
      have ne13_r10 : r10 ≠ b13 := by rw [g13]; exact Nat.ne_of_lt (A10).lt
      have z13 : n0 ≤ b13 := by rw [g13]; exact H10.le
      have f14 := f11.ext E13
      have f15 := f12.ext E13
      have f16 := A10.ext E13
      have f17 := X10.ext E13
      have AR13 : oA (.array .long) Z h13 b13 [.null] := A13
      refine o_astore H13 (L' := #[.val (.ref a1), .val (.int p1), .val (.int (0 : Int32)), .val (.ref r10), .val (.int (1 : Int32)), .val (.ref b13), .unset, .unset, .unset, .unset]) rfl rfl d4_98 rfl ?_
      refine o_aload H13 rfl rfl d4_100 rfl ?_
      refine o_iconst H13 (0 : Int32) rfl d4_102 rfl ?_
      refine o_aloadN H13 rfl rfl d4_103 rfl ?_
      refine o_aastore H13 0 AR13 V13 (Ins.self f17) (by decide) (Nat.le_of_ble_eq_true rfl) z13 d4_104 rfl ?_
      intro T18 h18 H18 W18 A18
      have f19 := f14.wr W18
      have f20 := f15.other W18 (Or.inl ne13_a1)
      have f21 := f16.other W18 ne13_r10
      have f22 := f17.wr W18
      have f23 := V13.wr W18
      have AR18 : oA (.array .long) Z h18 b13 [(.ref r10)] := A18
      refine o_iconst H18 (1 : Int32) rfl d4_105 rfl ?_
      refine o_istore H18 (L' := #[.val (.ref a1), .val (.int p1), .val (.int (0 : Int32)), .val (.ref r10), .val (.int (1 : Int32)), .val (.ref b13), .val (.int (1 : Int32)), .unset, .unset, .unset]) rfl d4_106 rfl ?_
      refine o_iload H18 rfl d4_108 rfl ?_
      refine o_iload H18 rfl d4_110 rfl ?_
      refine o_icmp_t H18 d4_112 (by decide) (pt := 196) (by decide) (by decide) ?_
      refine o_aloadN H18 rfl rfl d4_196 rfl ?_
      refine o_aload H18 rfl rfl d4_197 rfl ?_
      refine o_putF H18 (host := "") (Or.inl (w12 hw)) f20 f19 (Or.inl (w13 hw)) (w2 hw) (ty := (.array (.array .long))) (by decide) rfl rfl g_a1 d4_199 rfl ?_
      intro T24 h24 H24 W24
      have f25 := f19.wr W24
      have f26 := f20.same W24
      have f27 := f21.other W24 (Ne.symm na10)
      have f28 := f22.wr W24
      have f29 := AR18.other W24 (Ne.symm ne13_a1)
      have f30 := f23.wr W24
      have hne2 : (([] : List Int64) ++ List.replicate (N - ([] : List Int64).length) (0 : Int64)) ≠ [] := by intro q; rw [q] at hrl; simp at hrl; omega
      exact o_return H24 rfl d4_202 (by decide) (by decide) ⟨rfl, (([] : List Int64) ++ List.replicate (N - ([] : List Int64).length) (0 : Int64)), ⟨b13, _, f25, g_a1, f26, f29, Or.inr ⟨r10, _, rfl, hne2, f27, z10, (Ne.symm na10), ne13_r10, Or.inl ⟨rfl, by rw [hrl]; exact cN⟩⟩⟩, by rw [hrl]; exact hNB, by rw [hrl]; exact hiN, _, rfl⟩
    · skip
      refine o_iload H10 rfl d4_69 rfl ?_
      refine o_iconst H10 (1 : Int32) rfl d4_71 rfl ?_
      refine o_icmp_f H10 d4_72 (XT.ii_le_f (own_gt1 hN (by omega))) rfl ?_
      refine o_iinc H10 (1 : Int32) (2 : Int32) rfl (by decide) rfl (L' := #[.val (.ref a1), .val (.int p1), .val (.int (0 : Int32)), .val (.ref r10), .val (.int (2 : Int32)), .val (.int nn), .unset, .unset, .unset, .unset]) rfl d4_75 rfl ?_
      refine o_iload H10 rfl d4_78 rfl ?_
      refine o_bipush H10 (64 : Int32) rfl d4_80 rfl ?_
      refine o_iadd H10 d4_82 rfl ?_
      refine o_iconst H10 (1 : Int32) rfl d4_83 rfl ?_
      refine o_isub H10 d4_84 rfl ?_
      refine o_bipush H10 (64 : Int32) rfl d4_85 rfl ?_
      refine o_idiv H10 (by decide) d4_87 rfl ?_
      refine o_istore H10 (L' := #[.val (.ref a1), .val (.int p1), .val (.int (0 : Int32)), .val (.ref r10), .val (.int (2 : Int32)), .val (.int (((nn + (64 : Int32)) - (1 : Int32)) / (64 : Int32))), .unset, .unset, .unset, .unset]) rfl d4_88 rfl ?_
      obtain ⟨n1, e_n1⟩ : ∃ z : Int32, z = (((nn + (64 : Int32)) - (1 : Int32)) / (64 : Int32)) := ⟨_, rfl⟩
      rw [← e_n1]
      have hN1 := own_up hN (by omega)
      rw [← e_n1] at hN1
      clear e_n1
      refine o_goto H10 d4_90 (pt := 69) (by decide) (by decide) ?_
      refine o_iload H10 rfl d4_69 rfl ?_
      refine o_iconst H10 (1 : Int32) rfl d4_71 rfl ?_
      refine o_icmp_t H10 d4_72 (XT.ii_le_t (own_lt1 hN1 (by omega))) (pt := 93) (by decide) (by decide) ?_
      refine o_iload H10 rfl d4_93 rfl ?_
      refine o_anewarr H10 3 2 (w10 hw) (w11 hw) (by decide) (by decide) (by decide) d4_95 rfl (by decide) (by decide) ?_
      intro T31 h31 b31 g31 H31 E31 A31 V31
      have ne31_a1 : a1 ≠ b31 := by rw [g31]; exact Nat.ne_of_lt (f11).lt
      have ne31_r10 : r10 ≠ b31 := by rw [g31]; exact Nat.ne_of_lt (A10).lt
      have z31 : n0 ≤ b31 := by rw [g31]; exact H10.le
      have f32 := f11.ext E31
      have f33 := f12.ext E31
      have f34 := A10.ext E31
      have f35 := X10.ext E31
      have AR31 : oA (.array .long) Z h31 b31 [.null, .null] := A31
      refine o_astore H31 (L' := #[.val (.ref a1), .val (.int p1), .val (.int (0 : Int32)), .val (.ref r10), .val (.int (2 : Int32)), .val (.ref b31), .unset, .unset, .unset, .unset]) rfl rfl d4_98 rfl ?_
      refine o_aload H31 rfl rfl d4_100 rfl ?_
      refine o_iconst H31 (0 : Int32) rfl d4_102 rfl ?_
      refine o_aloadN H31 rfl rfl d4_103 rfl ?_
      refine o_aastore H31 0 AR31 V31 (Ins.self f35) (by decide) (Nat.le_of_ble_eq_true rfl) z31 d4_104 rfl ?_
      intro T36 h36 H36 W36 A36
      have f37 := f32.wr W36
      have f38 := f33.other W36 (Or.inl ne31_a1)
      have f39 := f34.other W36 ne31_r10
      have f40 := f35.wr W36
      have f41 := V31.wr W36
      have AR36 : oA (.array .long) Z h36 b31 [(.ref r10), .null] := A36
      refine o_iconst H36 (1 : Int32) rfl d4_105 rfl ?_
      refine o_istore H36 (L' := #[.val (.ref a1), .val (.int p1), .val (.int (0 : Int32)), .val (.ref r10), .val (.int (2 : Int32)), .val (.ref b31), .val (.int (1 : Int32)), .unset, .unset, .unset]) rfl d4_106 rfl ?_
      refine o_iload H36 rfl d4_108 rfl ?_
      refine o_iload H36 rfl d4_110 rfl ?_
      refine o_icmp_f H36 d4_112 (by decide) rfl ?_
      refine o_aload H36 rfl rfl d4_115 rfl ?_
      refine o_iload H36 rfl d4_117 rfl ?_
      refine o_iconst H36 (1 : Int32) rfl d4_119 rfl ?_
      refine o_isub H36 d4_120 rfl ?_
      refine o_aaload H36 0 (.ref r10) AR36 rfl (by decide) rfl d4_121 rfl ?_
      refine o_astore H36 (L' := #[.val (.ref a1), .val (.int p1), .val (.int (0 : Int32)), .val (.ref r10), .val (.int (2 : Int32)), .val (.ref b31), .val (.int (1 : Int32)), .val (.ref r10), .unset, .unset]) rfl rfl d4_122 rfl ?_
      refine o_aload H36 rfl rfl d4_124 rfl ?_
      refine o_arraylength H36 nn f39 (own_ln hN (by rw [List.length_map]; exact hrl)) d4_126 rfl ?_
      refine o_bipush H36 (64 : Int32) rfl d4_127 rfl ?_
      refine o_iadd H36 d4_129 rfl ?_
      refine o_iconst H36 (1 : Int32) rfl d4_130 rfl ?_
      refine o_isub H36 d4_131 rfl ?_
      refine o_bipush H36 (64 : Int32) rfl d4_132 rfl ?_
      refine o_idiv H36 (by decide) d4_134 rfl ?_
      obtain ⟨zz1, e_zz1⟩ : ∃ z : Int32, z = (((nn + (64 : Int32)) - (1 : Int32)) / (64 : Int32)) := ⟨_, rfl⟩
      rw [← e_zz1]
      have hZ1 := own_up hN (by omega)
      rw [← e_zz1] at hZ1
      clear e_zz1
      refine o_newarrE (aty := .long) H36 17 ((N + 63) / 64) (w23 hw) hZ1 (by omega) (by decide) d4_135 rfl (by decide) (by decide) (ad := "[J") (by decide) ?_
      intro T42 h42 b42 g42 H42 E42 A42 X42
      have ne42_a1 : a1 ≠ b42 := by rw [g42]; exact Nat.ne_of_lt (f37).lt
      have ne42_r10 : r10 ≠ b42 := by rw [g42]; exact Nat.ne_of_lt (f39).lt
      have ne42_b31 : b31 ≠ b42 := by rw [g42]; exact Nat.ne_of_lt (AR36).lt
      have z42 : n0 ≤ b42 := by rw [g42]; exact H36.le
      have f43 := f37.ext E42
      have f44 := f38.ext E42
      have f45 := f39.ext E42
      have f46 := f40.ext E42
      have f47 := AR36.ext E42
      have f48 := f41.ext E42
      have AZ42 : oA .long Z h42 b42 ((List.replicate ((N + 63) / 64) (0 : Int64)).map Value.long) := by rw [List.map_replicate]; exact A42
      refine o_astore H42 (L' := #[.val (.ref a1), .val (.int p1), .val (.int (0 : Int32)), .val (.ref r10), .val (.int (2 : Int32)), .val (.ref b31), .val (.int (1 : Int32)), .val (.ref r10), .val (.ref b42), .unset]) rfl rfl d4_137 rfl ?_
      refine o_iconst H42 (0 : Int32) rfl d4_139 rfl ?_
      refine o_istore H42 (L' := #[.val (.ref a1), .val (.int p1), .val (.int (0 : Int32)), .val (.ref r10), .val (.int (2 : Int32)), .val (.ref b31), .val (.int (1 : Int32)), .val (.ref r10), .val (.ref b42), .val (.int (0 : Int32))]) rfl d4_140 rfl ?_
      refine rmG_130 l Z a0 hw a1 r10 b31 r10 b42 p1 (0 : Int32) (2 : Int32) (1 : Int32) nn (([] : List Int64) ++ List.replicate (N - ([] : List Int64).length) (0 : Int64)) _ h42 n0 4 150 f45 (by rw [hrl]; exact hN) (own_fz _ hf) p e s m below meth c T42 H42 ?_ (([] : List Int64) ++ List.replicate (N - ([] : List Int64).length) (0 : Int64)).length 0 (0 : Int32) (by omega) rfl
      refine o_aload H42 rfl rfl d4_183 rfl ?_
      refine o_iload H42 rfl d4_185 rfl ?_
      refine o_aload H42 rfl rfl d4_187 rfl ?_
      refine o_aastore H42 1 f47 f48 (Ins.self X42) (by decide) (Nat.le_of_ble_eq_true rfl) z31 d4_189 rfl ?_
      intro T49 h49 H49 W49 A49
      have f50 := f43.wr W49
      have f51 := f44.other W49 (Or.inl ne31_a1)
      have f52 := f45.other W49 ne31_r10
      have f53 := f46.wr W49
      have f54 := AZ42.other W49 (Ne.symm ne42_b31)
      have f55 := X42.wr W49
      have f56 := f48.wr W49
      have AR49 : oA (.array .long) Z h49 b31 [(.ref r10), (.ref b42)] := A49
      refine o_iinc H49 (1 : Int32) (2 : Int32) rfl (by decide) rfl (L' := #[.val (.ref a1), .val (.int p1), .val (.int (0 : Int32)), .val (.ref r10), .val (.int (2 : Int32)), .val (.ref b31), .val (.int (2 : Int32)), .val (.ref r10), .val (.ref b42), .val (.int nn)]) rfl d4_190 rfl ?_
      refine o_goto H49 d4_193 (pt := 108) (by decide) (by decide) ?_
      refine o_iload H49 rfl d4_108 rfl ?_
      refine o_iload H49 rfl d4_110 rfl ?_
      refine o_icmp_t H49 d4_112 (by decide) (pt := 196) (by decide) (by decide) ?_
      refine o_aloadN H49 rfl rfl d4_196 rfl ?_
      refine o_aload H49 rfl rfl d4_197 rfl ?_
      refine o_putF H49 (host := "") (Or.inl (w12 hw)) f51 f50 (Or.inl (w13 hw)) (w2 hw) (ty := (.array (.array .long))) (by decide) rfl rfl g_a1 d4_199 rfl ?_
      intro T57 h57 H57 W57
      have f58 := f50.wr W57
      have f59 := f51.same W57
      have f60 := f52.other W57 (Ne.symm na10)
      have f61 := f53.wr W57
      have f62 := AR49.other W57 (Ne.symm ne31_a1)
      have f63 := f54.other W57 (Ne.symm ne42_a1)
      have f64 := f55.wr W57
      have f65 := f56.wr W57
      have hne2 : (([] : List Int64) ++ List.replicate (N - ([] : List Int64).length) (0 : Int64)) ≠ [] := by intro q; rw [q] at hrl; simp at hrl; omega
      have AU : oA .long Z h57 b42 ((List.replicate (((([] : List Int64) ++ List.replicate (N - ([] : List Int64).length) (0 : Int64)).length + 63) / 64) (0 : Int64)).map Value.long) := by rw [hrl]; exact f63
      exact o_return H57 rfl d4_202 (by decide) (by decide) ⟨rfl, (([] : List Int64) ++ List.replicate (N - ([] : List Int64).length) (0 : Int64)), ⟨b31, _, f58, g_a1, f59, f62, Or.inr ⟨r10, _, rfl, hne2, f60, z10, (Ne.symm na10), ne31_r10, Or.inr ⟨b42, _, rfl, (Ne.symm ne42_r10), AU⟩⟩⟩, by rw [hrl]; exact hNB, by rw [hrl]; exact hiN, _, rfl⟩
    · skip
      refine o_iload H10 rfl d4_69 rfl ?_
      refine o_iconst H10 (1 : Int32) rfl d4_71 rfl ?_
      refine o_icmp_f H10 d4_72 (XT.ii_le_f (own_gt1 hN (by omega))) rfl ?_
      refine o_iinc H10 (1 : Int32) (2 : Int32) rfl (by decide) rfl (L' := #[.val (.ref a1), .val (.int p1), .val (.int (0 : Int32)), .val (.ref r10), .val (.int (2 : Int32)), .val (.int nn), .unset, .unset, .unset, .unset]) rfl d4_75 rfl ?_
      refine o_iload H10 rfl d4_78 rfl ?_
      refine o_bipush H10 (64 : Int32) rfl d4_80 rfl ?_
      refine o_iadd H10 d4_82 rfl ?_
      refine o_iconst H10 (1 : Int32) rfl d4_83 rfl ?_
      refine o_isub H10 d4_84 rfl ?_
      refine o_bipush H10 (64 : Int32) rfl d4_85 rfl ?_
      refine o_idiv H10 (by decide) d4_87 rfl ?_
      refine o_istore H10 (L' := #[.val (.ref a1), .val (.int p1), .val (.int (0 : Int32)), .val (.ref r10), .val (.int (2 : Int32)), .val (.int (((nn + (64 : Int32)) - (1 : Int32)) / (64 : Int32))), .unset, .unset, .unset, .unset]) rfl d4_88 rfl ?_
      obtain ⟨n1, e_n1⟩ : ∃ z : Int32, z = (((nn + (64 : Int32)) - (1 : Int32)) / (64 : Int32)) := ⟨_, rfl⟩
      rw [← e_n1]
      have hN1 := own_up hN (by omega)
      rw [← e_n1] at hN1
      clear e_n1
      refine o_goto H10 d4_90 (pt := 69) (by decide) (by decide) ?_
      refine o_iload H10 rfl d4_69 rfl ?_
      refine o_iconst H10 (1 : Int32) rfl d4_71 rfl ?_
      refine o_icmp_f H10 d4_72 (XT.ii_le_f (own_gt1 hN1 (by omega))) rfl ?_
      refine o_iinc H10 (1 : Int32) (3 : Int32) rfl (by decide) rfl (L' := #[.val (.ref a1), .val (.int p1), .val (.int (0 : Int32)), .val (.ref r10), .val (.int (3 : Int32)), .val (.int n1), .unset, .unset, .unset, .unset]) rfl d4_75 rfl ?_
      refine o_iload H10 rfl d4_78 rfl ?_
      refine o_bipush H10 (64 : Int32) rfl d4_80 rfl ?_
      refine o_iadd H10 d4_82 rfl ?_
      refine o_iconst H10 (1 : Int32) rfl d4_83 rfl ?_
      refine o_isub H10 d4_84 rfl ?_
      refine o_bipush H10 (64 : Int32) rfl d4_85 rfl ?_
      refine o_idiv H10 (by decide) d4_87 rfl ?_
      refine o_istore H10 (L' := #[.val (.ref a1), .val (.int p1), .val (.int (0 : Int32)), .val (.ref r10), .val (.int (3 : Int32)), .val (.int (((n1 + (64 : Int32)) - (1 : Int32)) / (64 : Int32))), .unset, .unset, .unset, .unset]) rfl d4_88 rfl ?_
      obtain ⟨n2, e_n2⟩ : ∃ z : Int32, z = (((n1 + (64 : Int32)) - (1 : Int32)) / (64 : Int32)) := ⟨_, rfl⟩
      rw [← e_n2]
      have hN2 := own_up hN1 (by omega)
      rw [← e_n2] at hN2
      clear e_n2
      refine o_goto H10 d4_90 (pt := 69) (by decide) (by decide) ?_
      refine o_iload H10 rfl d4_69 rfl ?_
      refine o_iconst H10 (1 : Int32) rfl d4_71 rfl ?_
      refine o_icmp_t H10 d4_72 (XT.ii_le_t (own_lt1 hN2 (by omega))) (pt := 93) (by decide) (by decide) ?_
      refine o_iload H10 rfl d4_93 rfl ?_
      refine o_anewarr H10 3 3 (w10 hw) (w11 hw) (by decide) (by decide) (by decide) d4_95 rfl (by decide) (by decide) ?_
      intro T66 h66 b66 g66 H66 E66 A66 V66
      have ne66_a1 : a1 ≠ b66 := by rw [g66]; exact Nat.ne_of_lt (f11).lt
      have ne66_r10 : r10 ≠ b66 := by rw [g66]; exact Nat.ne_of_lt (A10).lt
      have z66 : n0 ≤ b66 := by rw [g66]; exact H10.le
      have f67 := f11.ext E66
      have f68 := f12.ext E66
      have f69 := A10.ext E66
      have f70 := X10.ext E66
      have AR66 : oA (.array .long) Z h66 b66 [.null, .null, .null] := A66
      refine o_astore H66 (L' := #[.val (.ref a1), .val (.int p1), .val (.int (0 : Int32)), .val (.ref r10), .val (.int (3 : Int32)), .val (.ref b66), .unset, .unset, .unset, .unset]) rfl rfl d4_98 rfl ?_
      refine o_aload H66 rfl rfl d4_100 rfl ?_
      refine o_iconst H66 (0 : Int32) rfl d4_102 rfl ?_
      refine o_aloadN H66 rfl rfl d4_103 rfl ?_
      refine o_aastore H66 0 AR66 V66 (Ins.self f70) (by decide) (Nat.le_of_ble_eq_true rfl) z66 d4_104 rfl ?_
      intro T71 h71 H71 W71 A71
      have f72 := f67.wr W71
      have f73 := f68.other W71 (Or.inl ne66_a1)
      have f74 := f69.other W71 ne66_r10
      have f75 := f70.wr W71
      have f76 := V66.wr W71
      have AR71 : oA (.array .long) Z h71 b66 [(.ref r10), .null, .null] := A71
      refine o_iconst H71 (1 : Int32) rfl d4_105 rfl ?_
      refine o_istore H71 (L' := #[.val (.ref a1), .val (.int p1), .val (.int (0 : Int32)), .val (.ref r10), .val (.int (3 : Int32)), .val (.ref b66), .val (.int (1 : Int32)), .unset, .unset, .unset]) rfl d4_106 rfl ?_
      refine o_iload H71 rfl d4_108 rfl ?_
      refine o_iload H71 rfl d4_110 rfl ?_
      refine o_icmp_f H71 d4_112 (by decide) rfl ?_
      refine o_aload H71 rfl rfl d4_115 rfl ?_
      refine o_iload H71 rfl d4_117 rfl ?_
      refine o_iconst H71 (1 : Int32) rfl d4_119 rfl ?_
      refine o_isub H71 d4_120 rfl ?_
      refine o_aaload H71 0 (.ref r10) AR71 rfl (by decide) rfl d4_121 rfl ?_
      refine o_astore H71 (L' := #[.val (.ref a1), .val (.int p1), .val (.int (0 : Int32)), .val (.ref r10), .val (.int (3 : Int32)), .val (.ref b66), .val (.int (1 : Int32)), .val (.ref r10), .unset, .unset]) rfl rfl d4_122 rfl ?_
      refine o_aload H71 rfl rfl d4_124 rfl ?_
      refine o_arraylength H71 nn f74 (own_ln hN (by rw [List.length_map]; exact hrl)) d4_126 rfl ?_
      refine o_bipush H71 (64 : Int32) rfl d4_127 rfl ?_
      refine o_iadd H71 d4_129 rfl ?_
      refine o_iconst H71 (1 : Int32) rfl d4_130 rfl ?_
      refine o_isub H71 d4_131 rfl ?_
      refine o_bipush H71 (64 : Int32) rfl d4_132 rfl ?_
      refine o_idiv H71 (by decide) d4_134 rfl ?_
      obtain ⟨zz1, e_zz1⟩ : ∃ z : Int32, z = (((nn + (64 : Int32)) - (1 : Int32)) / (64 : Int32)) := ⟨_, rfl⟩
      rw [← e_zz1]
      have hZ1 := own_up hN (by omega)
      rw [← e_zz1] at hZ1
      clear e_zz1
      refine o_newarrE (aty := .long) H71 17 ((N + 63) / 64) (w23 hw) hZ1 (by omega) (by decide) d4_135 rfl (by decide) (by decide) (ad := "[J") (by decide) ?_
      intro T77 h77 b77 g77 H77 E77 A77 X77
      have ne77_a1 : a1 ≠ b77 := by rw [g77]; exact Nat.ne_of_lt (f72).lt
      have ne77_r10 : r10 ≠ b77 := by rw [g77]; exact Nat.ne_of_lt (f74).lt
      have ne77_b66 : b66 ≠ b77 := by rw [g77]; exact Nat.ne_of_lt (AR71).lt
      have z77 : n0 ≤ b77 := by rw [g77]; exact H71.le
      have f78 := f72.ext E77
      have f79 := f73.ext E77
      have f80 := f74.ext E77
      have f81 := f75.ext E77
      have f82 := AR71.ext E77
      have f83 := f76.ext E77
      have AZ77 : oA .long Z h77 b77 ((List.replicate ((N + 63) / 64) (0 : Int64)).map Value.long) := by rw [List.map_replicate]; exact A77
      refine o_astore H77 (L' := #[.val (.ref a1), .val (.int p1), .val (.int (0 : Int32)), .val (.ref r10), .val (.int (3 : Int32)), .val (.ref b66), .val (.int (1 : Int32)), .val (.ref r10), .val (.ref b77), .unset]) rfl rfl d4_137 rfl ?_
      refine o_iconst H77 (0 : Int32) rfl d4_139 rfl ?_
      refine o_istore H77 (L' := #[.val (.ref a1), .val (.int p1), .val (.int (0 : Int32)), .val (.ref r10), .val (.int (3 : Int32)), .val (.ref b66), .val (.int (1 : Int32)), .val (.ref r10), .val (.ref b77), .val (.int (0 : Int32))]) rfl d4_140 rfl ?_
      refine rmG_130 l Z a0 hw a1 r10 b66 r10 b77 p1 (0 : Int32) (3 : Int32) (1 : Int32) nn (([] : List Int64) ++ List.replicate (N - ([] : List Int64).length) (0 : Int64)) _ h77 n0 4 150 f80 (by rw [hrl]; exact hN) (own_fz _ hf) p e s m below meth c T77 H77 ?_ (([] : List Int64) ++ List.replicate (N - ([] : List Int64).length) (0 : Int64)).length 0 (0 : Int32) (by omega) rfl
      refine o_aload H77 rfl rfl d4_183 rfl ?_
      refine o_iload H77 rfl d4_185 rfl ?_
      refine o_aload H77 rfl rfl d4_187 rfl ?_
      refine o_aastore H77 1 f82 f83 (Ins.self X77) (by decide) (Nat.le_of_ble_eq_true rfl) z66 d4_189 rfl ?_
      intro T84 h84 H84 W84 A84
      have f85 := f78.wr W84
      have f86 := f79.other W84 (Or.inl ne66_a1)
      have f87 := f80.other W84 ne66_r10
      have f88 := f81.wr W84
      have f89 := AZ77.other W84 (Ne.symm ne77_b66)
      have f90 := X77.wr W84
      have f91 := f83.wr W84
      have AR84 : oA (.array .long) Z h84 b66 [(.ref r10), (.ref b77), .null] := A84
      refine o_iinc H84 (1 : Int32) (2 : Int32) rfl (by decide) rfl (L' := #[.val (.ref a1), .val (.int p1), .val (.int (0 : Int32)), .val (.ref r10), .val (.int (3 : Int32)), .val (.ref b66), .val (.int (2 : Int32)), .val (.ref r10), .val (.ref b77), .val (.int nn)]) rfl d4_190 rfl ?_
      refine o_goto H84 d4_193 (pt := 108) (by decide) (by decide) ?_
      refine o_iload H84 rfl d4_108 rfl ?_
      refine o_iload H84 rfl d4_110 rfl ?_
      refine o_icmp_f H84 d4_112 (by decide) rfl ?_
      refine o_aload H84 rfl rfl d4_115 rfl ?_
      refine o_iload H84 rfl d4_117 rfl ?_
      refine o_iconst H84 (1 : Int32) rfl d4_119 rfl ?_
      refine o_isub H84 d4_120 rfl ?_
      refine o_aaload H84 1 (.ref b77) AR84 rfl (by decide) rfl d4_121 rfl ?_
      refine o_astore H84 (L' := #[.val (.ref a1), .val (.int p1), .val (.int (0 : Int32)), .val (.ref r10), .val (.int (3 : Int32)), .val (.ref b66), .val (.int (2 : Int32)), .val (.ref b77), .val (.ref b77), .val (.int nn)]) rfl rfl d4_122 rfl ?_
      refine o_aload H84 rfl rfl d4_124 rfl ?_
      refine o_arraylength H84 zz1 f89 (own_ln hZ1 (by rw [List.length_map, List.length_replicate])) d4_126 rfl ?_
      refine o_bipush H84 (64 : Int32) rfl d4_127 rfl ?_
      refine o_iadd H84 d4_129 rfl ?_
      refine o_iconst H84 (1 : Int32) rfl d4_130 rfl ?_
      refine o_isub H84 d4_131 rfl ?_
      refine o_bipush H84 (64 : Int32) rfl d4_132 rfl ?_
      refine o_idiv H84 (by decide) d4_134 rfl ?_
      obtain ⟨zz2, e_zz2⟩ : ∃ z : Int32, z = (((zz1 + (64 : Int32)) - (1 : Int32)) / (64 : Int32)) := ⟨_, rfl⟩
      rw [← e_zz2]
      have hZ2 := own_up hZ1 (by omega)
      rw [← e_zz2] at hZ2
      clear e_zz2
      refine o_newarrE (aty := .long) H84 1 (((N + 63) / 64 + 63) / 64) (w23 hw) hZ2 (by omega) (by decide) d4_135 rfl (by decide) (by decide) (ad := "[J") (by decide) ?_
      intro T92 h92 b92 g92 H92 E92 A92 X92
      have ne92_a1 : a1 ≠ b92 := by rw [g92]; exact Nat.ne_of_lt (f85).lt
      have ne92_r10 : r10 ≠ b92 := by rw [g92]; exact Nat.ne_of_lt (f87).lt
      have ne92_b66 : b66 ≠ b92 := by rw [g92]; exact Nat.ne_of_lt (AR84).lt
      have ne92_b77 : b77 ≠ b92 := by rw [g92]; exact Nat.ne_of_lt (f89).lt
      have z92 : n0 ≤ b92 := by rw [g92]; exact H84.le
      have f93 := f85.ext E92
      have f94 := f86.ext E92
      have f95 := f87.ext E92
      have f96 := f88.ext E92
      have f97 := AR84.ext E92
      have f98 := f89.ext E92
      have f99 := f90.ext E92
      have f100 := f91.ext E92
      have AZ92 : oA .long Z h92 b92 ((List.replicate (((N + 63) / 64 + 63) / 64) (0 : Int64)).map Value.long) := by rw [List.map_replicate]; exact A92
      refine o_astore H92 (L' := #[.val (.ref a1), .val (.int p1), .val (.int (0 : Int32)), .val (.ref r10), .val (.int (3 : Int32)), .val (.ref b66), .val (.int (2 : Int32)), .val (.ref b77), .val (.ref b92), .val (.int nn)]) rfl rfl d4_137 rfl ?_
      refine o_iconst H92 (0 : Int32) rfl d4_139 rfl ?_
      refine o_istore H92 (L' := #[.val (.ref a1), .val (.int p1), .val (.int (0 : Int32)), .val (.ref r10), .val (.int (3 : Int32)), .val (.ref b66), .val (.int (2 : Int32)), .val (.ref b77), .val (.ref b92), .val (.int (0 : Int32))]) rfl d4_140 rfl ?_
      refine rmG_130 l Z a0 hw a1 r10 b66 b77 b92 p1 (0 : Int32) (3 : Int32) (2 : Int32) zz1 (List.replicate ((N + 63) / 64) (0 : Int64)) _ h92 n0 5 151 f98 (by rw [List.length_replicate]; exact hZ1) (own_fr _) p e s m below meth c T92 H92 ?_ (List.replicate ((N + 63) / 64) (0 : Int64)).length 0 (0 : Int32) (by omega) rfl
      refine o_aload H92 rfl rfl d4_183 rfl ?_
      refine o_iload H92 rfl d4_185 rfl ?_
      refine o_aload H92 rfl rfl d4_187 rfl ?_
      refine o_aastore H92 2 f97 f100 (Ins.self X92) (by decide) (Nat.le_of_ble_eq_true rfl) z66 d4_189 rfl ?_
      intro T101 h101 H101 W101 A101
      have f102 := f93.wr W101
      have f103 := f94.other W101 (Or.inl ne66_a1)
      have f104 := f95.other W101 ne66_r10
      have f105 := f96.wr W101
      have f106 := f98.other W101 (Ne.symm ne77_b66)
      have f107 := f99.wr W101
      have f108 := AZ92.other W101 (Ne.symm ne92_b66)
      have f109 := X92.wr W101
      have f110 := f100.wr W101
      have AR101 : oA (.array .long) Z h101 b66 [(.ref r10), (.ref b77), (.ref b92)] := A101
      refine o_iinc H101 (1 : Int32) (3 : Int32) rfl (by decide) rfl (L' := #[.val (.ref a1), .val (.int p1), .val (.int (0 : Int32)), .val (.ref r10), .val (.int (3 : Int32)), .val (.ref b66), .val (.int (3 : Int32)), .val (.ref b77), .val (.ref b92), .val (.int zz1)]) rfl d4_190 rfl ?_
      refine o_goto H101 d4_193 (pt := 108) (by decide) (by decide) ?_
      refine o_iload H101 rfl d4_108 rfl ?_
      refine o_iload H101 rfl d4_110 rfl ?_
      refine o_icmp_t H101 d4_112 (by decide) (pt := 196) (by decide) (by decide) ?_
      refine o_aloadN H101 rfl rfl d4_196 rfl ?_
      refine o_aload H101 rfl rfl d4_197 rfl ?_
      refine o_putF H101 (host := "") (Or.inl (w12 hw)) f103 f102 (Or.inl (w13 hw)) (w2 hw) (ty := (.array (.array .long))) (by decide) rfl rfl g_a1 d4_199 rfl ?_
      intro T111 h111 H111 W111
      have f112 := f102.wr W111
      have f113 := f103.same W111
      have f114 := f104.other W111 (Ne.symm na10)
      have f115 := f105.wr W111
      have f116 := AR101.other W111 (Ne.symm ne66_a1)
      have f117 := f106.other W111 (Ne.symm ne77_a1)
      have f118 := f107.wr W111
      have f119 := f108.other W111 (Ne.symm ne92_a1)
      have f120 := f109.wr W111
      have f121 := f110.wr W111
      have hne2 : (([] : List Int64) ++ List.replicate (N - ([] : List Int64).length) (0 : Int64)) ≠ [] := by intro q; rw [q] at hrl; simp at hrl; omega
      have AU : oA .long Z h111 b77 ((List.replicate (((([] : List Int64) ++ List.replicate (N - ([] : List Int64).length) (0 : Int64)).length + 63) / 64) (0 : Int64)).map Value.long) := by rw [hrl]; exact f117
      exact o_return H111 rfl d4_202 (by decide) (by decide) ⟨rfl, (([] : List Int64) ++ List.replicate (N - ([] : List Int64).length) (0 : Int64)), ⟨b66, _, f112, g_a1, f113, f116, Or.inr ⟨r10, _, rfl, hne2, f114, z10, (Ne.symm na10), ne66_r10, Or.inr ⟨b77, _, rfl, (Ne.symm ne77_r10), AU⟩⟩⟩, by rw [hrl]; exact hNB, by rw [hrl]; exact hiN, _, rfl⟩
  · have hL := o_len1 AL
    have hn := own_nl (n := ws.length) (by omega)
    refine o_aloadN H rfl rfl d4_0 rfl ?_
    refine o_getF H (host := "") (Or.inl (w12 hw)) FL d4_1 rfl ?_
    intro T122 H123
    refine o_arraylength H123 ((Value.ref w0 :: rest).length.toInt32) AL rfl d4_4 rfl ?_
    refine o_if_t H123 d4_5 (XT.i0_ne_t (by rw [n_eq]; have := (n_lt _ _).mp hL.1; omega)) (pt := 12) (by decide) (by decide) ?_
    refine o_aloadN H123 rfl rfl d4_12 rfl ?_
    refine o_getF H123 (host := "") (Or.inl (w12 hw)) FL d4_13 rfl ?_
    intro T124 H125
    refine o_iconst H125 (0 : Int32) rfl d4_16 rfl ?_
    refine o_aaload H125 0 (.ref w0) AL rfl (by decide) rfl d4_17 rfl ?_
    refine o_arraylength H125 (ws.length.toInt32) A0 (by rw [List.length_map]) d4_18 rfl ?_
    refine o_bipush H125 (64 : Int32) rfl d4_19 rfl ?_
    refine o_imul H125 d4_21 rfl ?_
    refine o_istoreN H125 (L' := #[.val (.ref a1), .val (.int p1), .val (.int ((ws.length.toInt32) * (64 : Int32))), .unset, .unset, .unset, .unset, .unset, .unset, .unset]) rfl d4_22 rfl ?_
    refine o_aloadN H125 rfl rfl d4_23 rfl ?_
    refine o_getF H125 (host := "") (Or.inl (w12 hw)) FL d4_24 rfl ?_
    intro T126 H127
    refine o_arraylength H127 ((Value.ref w0 :: rest).length.toInt32) AL rfl d4_27 rfl ?_
    refine o_if_t H127 d4_28 (XT.i0_ne_t (by rw [n_eq]; have := (n_lt _ _).mp hL.1; omega)) (pt := 37) (by decide) (by decide) ?_
    refine o_aloadN H127 rfl rfl d4_37 rfl ?_
    refine o_getF H127 (host := "") (Or.inl (w12 hw)) FL d4_38 rfl ?_
    intro T128 H129
    refine o_iconst H129 (0 : Int32) rfl d4_41 rfl ?_
    refine o_aaload H129 0 (.ref w0) AL rfl (by decide) rfl d4_42 rfl ?_
    refine o_iloadN H129 rfl d4_43 rfl ?_
    refine o_iconst H129 (2 : Int32) rfl d4_44 rfl ?_
    refine o_iloadN H129 rfl d4_45 rfl ?_
    refine o_imul H129 d4_46 rfl ?_
    refine o_static H129 [(.int p1), (.int ((2 : Int32) * ((ws.length.toInt32) * (64 : Int32))))] [(.ref w0)] (rm5 l Z a0 hw p1 ((2 : Int32) * ((ws.length.toInt32) * (64 : Int32))) h0 n0 H129.le) (w24 hw) (w25 hw) (w26 hw) (w27 hw) (by decide) (lenOf pd5 rfl) rfl rfl (by decide) (Nat.le_of_ble_eq_true rfl) (by decide) (by decide) d4_47 rfl ?_
    intro T130 v130 h130 H130 q130
    obtain ⟨rfl, rfl⟩ := q130
    show oG p e below s n0 _ _ _ (T130.setTop (mkF m 50 #[.val (.ref a1), .val (.int p1), .val (.int ((ws.length.toInt32) * (64 : Int32))), .unset, .unset, .unset, .unset, .unset, .unset, .unset] [(.int (own_mx p1 ((2 : Int32) * ((ws.length.toInt32) * (64 : Int32))))), (.ref w0)]))
    refine o_bipush H130 (64 : Int32) rfl d4_50 rfl ?_
    refine o_iadd H130 d4_52 rfl ?_
    refine o_iconst H130 (1 : Int32) rfl d4_53 rfl ?_
    refine o_isub H130 d4_54 rfl ?_
    refine o_bipush H130 (64 : Int32) rfl d4_55 rfl ?_
    refine o_idiv H130 (by decide) d4_57 rfl ?_
    obtain ⟨nn, e_nn⟩ : ∃ z : Int32, z = ((((own_mx p1 ((2 : Int32) * ((ws.length.toInt32) * (64 : Int32)))) + (64 : Int32)) - (1 : Int32)) / (64 : Int32)) := ⟨_, rfl⟩
    rw [← e_nn]
    obtain ⟨N, hN, hlt, hiN, h1N, h1024, h130⟩ := own_gN (p := p1) (old := (ws.length.toInt32 * 64)) (i := i) (n := ws.length) hp (own_m64 hn (by omega)) (by omega) (by omega) (by omega)
    rw [← e_nn] at hN
    have hNB : N ≤ 130 := by omega
    clear e_nn
    refine o_static H130 [(.ref w0), (.int nn)] [] (rm6_130 l Z a0 hw w0 nn ws N h0 n0 H130.le A0 hN hlt hNB) (w28 hw) (w29 hw) (w30 hw) (w31 hw) (by decide) (lenOf pd6 rfl) rfl rfl (by decide) (Nat.le_of_ble_eq_true rfl) (by decide) (by decide) d4_58 rfl ?_
    intro T131 v131 h131 H131 q131
    obtain ⟨r131, rfl, K131, A131, X131, z131, y131⟩ := q131
    have na131 : a1 ≠ r131 := Nat.ne_of_lt (Nat.lt_of_lt_of_le (E_a1).lt y131)
    have f132 := E_a1.keep K131
    have f133 := FL.keep K131 nin0
    have hrl : (ws ++ List.replicate (N - ws.length) (0 : Int64)).length = N := by rw [List.length_append, List.length_replicate]; omega
    show oG p e below s n0 _ _ _ (T131.setTop (mkF m 61 #[.val (.ref a1), .val (.int p1), .val (.int ((ws.length.toInt32) * (64 : Int32))), .unset, .unset, .unset, .unset, .unset, .unset, .unset] [(.ref r131)]))
    refine o_astoreN H131 (L' := #[.val (.ref a1), .val (.int p1), .val (.int ((ws.length.toInt32) * (64 : Int32))), .val (.ref r131), .unset, .unset, .unset, .unset, .unset, .unset]) rfl rfl d4_61 rfl ?_
    refine o_iconst H131 (1 : Int32) rfl d4_62 rfl ?_
    refine o_istore H131 (L' := #[.val (.ref a1), .val (.int p1), .val (.int ((ws.length.toInt32) * (64 : Int32))), .val (.ref r131), .val (.int (1 : Int32)), .unset, .unset, .unset, .unset, .unset]) rfl d4_63 rfl ?_
    refine o_aloadN H131 rfl rfl d4_65 rfl ?_
    refine o_arraylength H131 nn A131 (own_ln hN (by rw [List.length_map]; exact hrl)) d4_66 rfl ?_
    refine o_istore H131 (L' := #[.val (.ref a1), .val (.int p1), .val (.int ((ws.length.toInt32) * (64 : Int32))), .val (.ref r131), .val (.int (1 : Int32)), .val (.int nn), .unset, .unset, .unset, .unset]) rfl d4_67 rfl ?_
    have cN : N = 1 ∨ (2 ≤ N ∧ N ≤ 64) ∨ (65 ≤ N ∧ N ≤ 1024) := by omega
    rcases cN with cN | cN | cN
    · skip
      refine o_iload H131 rfl d4_69 rfl ?_
      refine o_iconst H131 (1 : Int32) rfl d4_71 rfl ?_
      refine o_icmp_t H131 d4_72 (XT.ii_le_t (own_lt1 hN (by omega))) (pt := 93) (by decide) (by decide) ?_
      refine o_iload H131 rfl d4_93 rfl ?_
      refine o_anewarr H131 3 1 (w10 hw) (w11 hw) (by decide) (by decide) (by decide) d4_95 rfl (by decide) (by decide) ?_
      intro T134 h134 b134 g134 H134 E134 A134 V134
      have ne134_a1 : a1 ≠ b134 := by rw [g134]; exact Nat.ne_of_lt (f132).lt
      have ne134_r131 : r131 ≠ b134 := by rw [g134]; exact Nat.ne_of_lt (A131).lt
      have z134 : n0 ≤ b134 := by rw [g134]; exact H131.le
      have f135 := f132.ext E134
      have f136 := f133.ext E134
      have f137 := A131.ext E134
      have f138 := X131.ext E134
      have AR134 : oA (.array .long) Z h134 b134 [.null] := A134
      refine o_astore H134 (L' := #[.val (.ref a1), .val (.int p1), .val (.int ((ws.length.toInt32) * (64 : Int32))), .val (.ref r131), .val (.int (1 : Int32)), .val (.ref b134), .unset, .unset, .unset, .unset]) rfl rfl d4_98 rfl ?_
      refine o_aload H134 rfl rfl d4_100 rfl ?_
      refine o_iconst H134 (0 : Int32) rfl d4_102 rfl ?_
      refine o_aloadN H134 rfl rfl d4_103 rfl ?_
      refine o_aastore H134 0 AR134 V134 (Ins.self f138) (by decide) (Nat.le_of_ble_eq_true rfl) z134 d4_104 rfl ?_
      intro T139 h139 H139 W139 A139
      have f140 := f135.wr W139
      have f141 := f136.other W139 (Or.inl ne134_a1)
      have f142 := f137.other W139 ne134_r131
      have f143 := f138.wr W139
      have f144 := V134.wr W139
      have AR139 : oA (.array .long) Z h139 b134 [(.ref r131)] := A139
      refine o_iconst H139 (1 : Int32) rfl d4_105 rfl ?_
      refine o_istore H139 (L' := #[.val (.ref a1), .val (.int p1), .val (.int ((ws.length.toInt32) * (64 : Int32))), .val (.ref r131), .val (.int (1 : Int32)), .val (.ref b134), .val (.int (1 : Int32)), .unset, .unset, .unset]) rfl d4_106 rfl ?_
      refine o_iload H139 rfl d4_108 rfl ?_
      refine o_iload H139 rfl d4_110 rfl ?_
      refine o_icmp_t H139 d4_112 (by decide) (pt := 196) (by decide) (by decide) ?_
      refine o_aloadN H139 rfl rfl d4_196 rfl ?_
      refine o_aload H139 rfl rfl d4_197 rfl ?_
      refine o_putF H139 (host := "") (Or.inl (w12 hw)) f141 f140 (Or.inl (w13 hw)) (w2 hw) (ty := (.array (.array .long))) (by decide) rfl rfl g_a1 d4_199 rfl ?_
      intro T145 h145 H145 W145
      have f146 := f140.wr W145
      have f147 := f141.same W145
      have f148 := f142.other W145 (Ne.symm na131)
      have f149 := f143.wr W145
      have f150 := AR139.other W145 (Ne.symm ne134_a1)
      have f151 := f144.wr W145
      have hne2 : (ws ++ List.replicate (N - ws.length) (0 : Int64)) ≠ [] := by intro q; rw [q] at hrl; simp at hrl; omega
      exact o_return H145 rfl d4_202 (by decide) (by decide) ⟨rfl, (ws ++ List.replicate (N - ws.length) (0 : Int64)), ⟨b134, _, f146, g_a1, f147, f150, Or.inr ⟨r131, _, rfl, hne2, f148, z131, (Ne.symm na131), ne134_r131, Or.inl ⟨rfl, by rw [hrl]; exact cN⟩⟩⟩, by rw [hrl]; exact hNB, by rw [hrl]; exact hiN, _, rfl⟩
    · skip
      refine o_iload H131 rfl d4_69 rfl ?_
      refine o_iconst H131 (1 : Int32) rfl d4_71 rfl ?_
      refine o_icmp_f H131 d4_72 (XT.ii_le_f (own_gt1 hN (by omega))) rfl ?_
      refine o_iinc H131 (1 : Int32) (2 : Int32) rfl (by decide) rfl (L' := #[.val (.ref a1), .val (.int p1), .val (.int ((ws.length.toInt32) * (64 : Int32))), .val (.ref r131), .val (.int (2 : Int32)), .val (.int nn), .unset, .unset, .unset, .unset]) rfl d4_75 rfl ?_
      refine o_iload H131 rfl d4_78 rfl ?_
      refine o_bipush H131 (64 : Int32) rfl d4_80 rfl ?_
      refine o_iadd H131 d4_82 rfl ?_
      refine o_iconst H131 (1 : Int32) rfl d4_83 rfl ?_
      refine o_isub H131 d4_84 rfl ?_
      refine o_bipush H131 (64 : Int32) rfl d4_85 rfl ?_
      refine o_idiv H131 (by decide) d4_87 rfl ?_
      refine o_istore H131 (L' := #[.val (.ref a1), .val (.int p1), .val (.int ((ws.length.toInt32) * (64 : Int32))), .val (.ref r131), .val (.int (2 : Int32)), .val (.int (((nn + (64 : Int32)) - (1 : Int32)) / (64 : Int32))), .unset, .unset, .unset, .unset]) rfl d4_88 rfl ?_
      obtain ⟨n1, e_n1⟩ : ∃ z : Int32, z = (((nn + (64 : Int32)) - (1 : Int32)) / (64 : Int32)) := ⟨_, rfl⟩
      rw [← e_n1]
      have hN1 := own_up hN (by omega)
      rw [← e_n1] at hN1
      clear e_n1
      refine o_goto H131 d4_90 (pt := 69) (by decide) (by decide) ?_
      refine o_iload H131 rfl d4_69 rfl ?_
      refine o_iconst H131 (1 : Int32) rfl d4_71 rfl ?_
      refine o_icmp_t H131 d4_72 (XT.ii_le_t (own_lt1 hN1 (by omega))) (pt := 93) (by decide) (by decide) ?_
      refine o_iload H131 rfl d4_93 rfl ?_
      refine o_anewarr H131 3 2 (w10 hw) (w11 hw) (by decide) (by decide) (by decide) d4_95 rfl (by decide) (by decide) ?_
      intro T152 h152 b152 g152 H152 E152 A152 V152
      have ne152_a1 : a1 ≠ b152 := by rw [g152]; exact Nat.ne_of_lt (f132).lt
      have ne152_r131 : r131 ≠ b152 := by rw [g152]; exact Nat.ne_of_lt (A131).lt
      have z152 : n0 ≤ b152 := by rw [g152]; exact H131.le
      have f153 := f132.ext E152
      have f154 := f133.ext E152
      have f155 := A131.ext E152
      have f156 := X131.ext E152
      have AR152 : oA (.array .long) Z h152 b152 [.null, .null] := A152
      refine o_astore H152 (L' := #[.val (.ref a1), .val (.int p1), .val (.int ((ws.length.toInt32) * (64 : Int32))), .val (.ref r131), .val (.int (2 : Int32)), .val (.ref b152), .unset, .unset, .unset, .unset]) rfl rfl d4_98 rfl ?_
      refine o_aload H152 rfl rfl d4_100 rfl ?_
      refine o_iconst H152 (0 : Int32) rfl d4_102 rfl ?_
      refine o_aloadN H152 rfl rfl d4_103 rfl ?_
      refine o_aastore H152 0 AR152 V152 (Ins.self f156) (by decide) (Nat.le_of_ble_eq_true rfl) z152 d4_104 rfl ?_
      intro T157 h157 H157 W157 A157
      have f158 := f153.wr W157
      have f159 := f154.other W157 (Or.inl ne152_a1)
      have f160 := f155.other W157 ne152_r131
      have f161 := f156.wr W157
      have f162 := V152.wr W157
      have AR157 : oA (.array .long) Z h157 b152 [(.ref r131), .null] := A157
      refine o_iconst H157 (1 : Int32) rfl d4_105 rfl ?_
      refine o_istore H157 (L' := #[.val (.ref a1), .val (.int p1), .val (.int ((ws.length.toInt32) * (64 : Int32))), .val (.ref r131), .val (.int (2 : Int32)), .val (.ref b152), .val (.int (1 : Int32)), .unset, .unset, .unset]) rfl d4_106 rfl ?_
      refine o_iload H157 rfl d4_108 rfl ?_
      refine o_iload H157 rfl d4_110 rfl ?_
      refine o_icmp_f H157 d4_112 (by decide) rfl ?_
      refine o_aload H157 rfl rfl d4_115 rfl ?_
      refine o_iload H157 rfl d4_117 rfl ?_
      refine o_iconst H157 (1 : Int32) rfl d4_119 rfl ?_
      refine o_isub H157 d4_120 rfl ?_
      refine o_aaload H157 0 (.ref r131) AR157 rfl (by decide) rfl d4_121 rfl ?_
      refine o_astore H157 (L' := #[.val (.ref a1), .val (.int p1), .val (.int ((ws.length.toInt32) * (64 : Int32))), .val (.ref r131), .val (.int (2 : Int32)), .val (.ref b152), .val (.int (1 : Int32)), .val (.ref r131), .unset, .unset]) rfl rfl d4_122 rfl ?_
      refine o_aload H157 rfl rfl d4_124 rfl ?_
      refine o_arraylength H157 nn f160 (own_ln hN (by rw [List.length_map]; exact hrl)) d4_126 rfl ?_
      refine o_bipush H157 (64 : Int32) rfl d4_127 rfl ?_
      refine o_iadd H157 d4_129 rfl ?_
      refine o_iconst H157 (1 : Int32) rfl d4_130 rfl ?_
      refine o_isub H157 d4_131 rfl ?_
      refine o_bipush H157 (64 : Int32) rfl d4_132 rfl ?_
      refine o_idiv H157 (by decide) d4_134 rfl ?_
      obtain ⟨zz1, e_zz1⟩ : ∃ z : Int32, z = (((nn + (64 : Int32)) - (1 : Int32)) / (64 : Int32)) := ⟨_, rfl⟩
      rw [← e_zz1]
      have hZ1 := own_up hN (by omega)
      rw [← e_zz1] at hZ1
      clear e_zz1
      refine o_newarrE (aty := .long) H157 17 ((N + 63) / 64) (w23 hw) hZ1 (by omega) (by decide) d4_135 rfl (by decide) (by decide) (ad := "[J") (by decide) ?_
      intro T163 h163 b163 g163 H163 E163 A163 X163
      have ne163_a1 : a1 ≠ b163 := by rw [g163]; exact Nat.ne_of_lt (f158).lt
      have ne163_r131 : r131 ≠ b163 := by rw [g163]; exact Nat.ne_of_lt (f160).lt
      have ne163_b152 : b152 ≠ b163 := by rw [g163]; exact Nat.ne_of_lt (AR157).lt
      have z163 : n0 ≤ b163 := by rw [g163]; exact H157.le
      have f164 := f158.ext E163
      have f165 := f159.ext E163
      have f166 := f160.ext E163
      have f167 := f161.ext E163
      have f168 := AR157.ext E163
      have f169 := f162.ext E163
      have AZ163 : oA .long Z h163 b163 ((List.replicate ((N + 63) / 64) (0 : Int64)).map Value.long) := by rw [List.map_replicate]; exact A163
      refine o_astore H163 (L' := #[.val (.ref a1), .val (.int p1), .val (.int ((ws.length.toInt32) * (64 : Int32))), .val (.ref r131), .val (.int (2 : Int32)), .val (.ref b152), .val (.int (1 : Int32)), .val (.ref r131), .val (.ref b163), .unset]) rfl rfl d4_137 rfl ?_
      refine o_iconst H163 (0 : Int32) rfl d4_139 rfl ?_
      refine o_istore H163 (L' := #[.val (.ref a1), .val (.int p1), .val (.int ((ws.length.toInt32) * (64 : Int32))), .val (.ref r131), .val (.int (2 : Int32)), .val (.ref b152), .val (.int (1 : Int32)), .val (.ref r131), .val (.ref b163), .val (.int (0 : Int32))]) rfl d4_140 rfl ?_
      refine rmG_130 l Z a0 hw a1 r131 b152 r131 b163 p1 ((ws.length.toInt32) * (64 : Int32)) (2 : Int32) (1 : Int32) nn (ws ++ List.replicate (N - ws.length) (0 : Int64)) _ h163 n0 3 150 f166 (by rw [hrl]; exact hN) (own_fz _ hf) p e s m below meth c T163 H163 ?_ (ws ++ List.replicate (N - ws.length) (0 : Int64)).length 0 (0 : Int32) (by omega) rfl
      refine o_aload H163 rfl rfl d4_183 rfl ?_
      refine o_iload H163 rfl d4_185 rfl ?_
      refine o_aload H163 rfl rfl d4_187 rfl ?_
      refine o_aastore H163 1 f168 f169 (Ins.self X163) (by decide) (Nat.le_of_ble_eq_true rfl) z152 d4_189 rfl ?_
      intro T170 h170 H170 W170 A170
      have f171 := f164.wr W170
      have f172 := f165.other W170 (Or.inl ne152_a1)
      have f173 := f166.other W170 ne152_r131
      have f174 := f167.wr W170
      have f175 := AZ163.other W170 (Ne.symm ne163_b152)
      have f176 := X163.wr W170
      have f177 := f169.wr W170
      have AR170 : oA (.array .long) Z h170 b152 [(.ref r131), (.ref b163)] := A170
      refine o_iinc H170 (1 : Int32) (2 : Int32) rfl (by decide) rfl (L' := #[.val (.ref a1), .val (.int p1), .val (.int ((ws.length.toInt32) * (64 : Int32))), .val (.ref r131), .val (.int (2 : Int32)), .val (.ref b152), .val (.int (2 : Int32)), .val (.ref r131), .val (.ref b163), .val (.int nn)]) rfl d4_190 rfl ?_
      refine o_goto H170 d4_193 (pt := 108) (by decide) (by decide) ?_
      refine o_iload H170 rfl d4_108 rfl ?_
      refine o_iload H170 rfl d4_110 rfl ?_
      refine o_icmp_t H170 d4_112 (by decide) (pt := 196) (by decide) (by decide) ?_
      refine o_aloadN H170 rfl rfl d4_196 rfl ?_
      refine o_aload H170 rfl rfl d4_197 rfl ?_
      refine o_putF H170 (host := "") (Or.inl (w12 hw)) f172 f171 (Or.inl (w13 hw)) (w2 hw) (ty := (.array (.array .long))) (by decide) rfl rfl g_a1 d4_199 rfl ?_
      intro T178 h178 H178 W178
      have f179 := f171.wr W178
      have f180 := f172.same W178
      have f181 := f173.other W178 (Ne.symm na131)
      have f182 := f174.wr W178
      have f183 := AR170.other W178 (Ne.symm ne152_a1)
      have f184 := f175.other W178 (Ne.symm ne163_a1)
      have f185 := f176.wr W178
      have f186 := f177.wr W178
      have hne2 : (ws ++ List.replicate (N - ws.length) (0 : Int64)) ≠ [] := by intro q; rw [q] at hrl; simp at hrl; omega
      have AU : oA .long Z h178 b163 ((List.replicate (((ws ++ List.replicate (N - ws.length) (0 : Int64)).length + 63) / 64) (0 : Int64)).map Value.long) := by rw [hrl]; exact f184
      exact o_return H178 rfl d4_202 (by decide) (by decide) ⟨rfl, (ws ++ List.replicate (N - ws.length) (0 : Int64)), ⟨b152, _, f179, g_a1, f180, f183, Or.inr ⟨r131, _, rfl, hne2, f181, z131, (Ne.symm na131), ne152_r131, Or.inr ⟨b163, _, rfl, (Ne.symm ne163_r131), AU⟩⟩⟩, by rw [hrl]; exact hNB, by rw [hrl]; exact hiN, _, rfl⟩
    · skip
      refine o_iload H131 rfl d4_69 rfl ?_
      refine o_iconst H131 (1 : Int32) rfl d4_71 rfl ?_
      refine o_icmp_f H131 d4_72 (XT.ii_le_f (own_gt1 hN (by omega))) rfl ?_
      refine o_iinc H131 (1 : Int32) (2 : Int32) rfl (by decide) rfl (L' := #[.val (.ref a1), .val (.int p1), .val (.int ((ws.length.toInt32) * (64 : Int32))), .val (.ref r131), .val (.int (2 : Int32)), .val (.int nn), .unset, .unset, .unset, .unset]) rfl d4_75 rfl ?_
      refine o_iload H131 rfl d4_78 rfl ?_
      refine o_bipush H131 (64 : Int32) rfl d4_80 rfl ?_
      refine o_iadd H131 d4_82 rfl ?_
      refine o_iconst H131 (1 : Int32) rfl d4_83 rfl ?_
      refine o_isub H131 d4_84 rfl ?_
      refine o_bipush H131 (64 : Int32) rfl d4_85 rfl ?_
      refine o_idiv H131 (by decide) d4_87 rfl ?_
      refine o_istore H131 (L' := #[.val (.ref a1), .val (.int p1), .val (.int ((ws.length.toInt32) * (64 : Int32))), .val (.ref r131), .val (.int (2 : Int32)), .val (.int (((nn + (64 : Int32)) - (1 : Int32)) / (64 : Int32))), .unset, .unset, .unset, .unset]) rfl d4_88 rfl ?_
      obtain ⟨n1, e_n1⟩ : ∃ z : Int32, z = (((nn + (64 : Int32)) - (1 : Int32)) / (64 : Int32)) := ⟨_, rfl⟩
      rw [← e_n1]
      have hN1 := own_up hN (by omega)
      rw [← e_n1] at hN1
      clear e_n1
      refine o_goto H131 d4_90 (pt := 69) (by decide) (by decide) ?_
      refine o_iload H131 rfl d4_69 rfl ?_
      refine o_iconst H131 (1 : Int32) rfl d4_71 rfl ?_
      refine o_icmp_f H131 d4_72 (XT.ii_le_f (own_gt1 hN1 (by omega))) rfl ?_
      refine o_iinc H131 (1 : Int32) (3 : Int32) rfl (by decide) rfl (L' := #[.val (.ref a1), .val (.int p1), .val (.int ((ws.length.toInt32) * (64 : Int32))), .val (.ref r131), .val (.int (3 : Int32)), .val (.int n1), .unset, .unset, .unset, .unset]) rfl d4_75 rfl ?_
      refine o_iload H131 rfl d4_78 rfl ?_
      refine o_bipush H131 (64 : Int32) rfl d4_80 rfl ?_
      refine o_iadd H131 d4_82 rfl ?_
      refine o_iconst H131 (1 : Int32) rfl d4_83 rfl ?_
      refine o_isub H131 d4_84 rfl ?_
      refine o_bipush H131 (64 : Int32) rfl d4_85 rfl ?_
      refine o_idiv H131 (by decide) d4_87 rfl ?_
      refine o_istore H131 (L' := #[.val (.ref a1), .val (.int p1), .val (.int ((ws.length.toInt32) * (64 : Int32))), .val (.ref r131), .val (.int (3 : Int32)), .val (.int (((n1 + (64 : Int32)) - (1 : Int32)) / (64 : Int32))), .unset, .unset, .unset, .unset]) rfl d4_88 rfl ?_
      obtain ⟨n2, e_n2⟩ : ∃ z : Int32, z = (((n1 + (64 : Int32)) - (1 : Int32)) / (64 : Int32)) := ⟨_, rfl⟩
      rw [← e_n2]
      have hN2 := own_up hN1 (by omega)
      rw [← e_n2] at hN2
      clear e_n2
      refine o_goto H131 d4_90 (pt := 69) (by decide) (by decide) ?_
      refine o_iload H131 rfl d4_69 rfl ?_
      refine o_iconst H131 (1 : Int32) rfl d4_71 rfl ?_
      refine o_icmp_t H131 d4_72 (XT.ii_le_t (own_lt1 hN2 (by omega))) (pt := 93) (by decide) (by decide) ?_
      refine o_iload H131 rfl d4_93 rfl ?_
      refine o_anewarr H131 3 3 (w10 hw) (w11 hw) (by decide) (by decide) (by decide) d4_95 rfl (by decide) (by decide) ?_
      intro T187 h187 b187 g187 H187 E187 A187 V187
      have ne187_a1 : a1 ≠ b187 := by rw [g187]; exact Nat.ne_of_lt (f132).lt
      have ne187_r131 : r131 ≠ b187 := by rw [g187]; exact Nat.ne_of_lt (A131).lt
      have z187 : n0 ≤ b187 := by rw [g187]; exact H131.le
      have f188 := f132.ext E187
      have f189 := f133.ext E187
      have f190 := A131.ext E187
      have f191 := X131.ext E187
      have AR187 : oA (.array .long) Z h187 b187 [.null, .null, .null] := A187
      refine o_astore H187 (L' := #[.val (.ref a1), .val (.int p1), .val (.int ((ws.length.toInt32) * (64 : Int32))), .val (.ref r131), .val (.int (3 : Int32)), .val (.ref b187), .unset, .unset, .unset, .unset]) rfl rfl d4_98 rfl ?_
      refine o_aload H187 rfl rfl d4_100 rfl ?_
      refine o_iconst H187 (0 : Int32) rfl d4_102 rfl ?_
      refine o_aloadN H187 rfl rfl d4_103 rfl ?_
      refine o_aastore H187 0 AR187 V187 (Ins.self f191) (by decide) (Nat.le_of_ble_eq_true rfl) z187 d4_104 rfl ?_
      intro T192 h192 H192 W192 A192
      have f193 := f188.wr W192
      have f194 := f189.other W192 (Or.inl ne187_a1)
      have f195 := f190.other W192 ne187_r131
      have f196 := f191.wr W192
      have f197 := V187.wr W192
      have AR192 : oA (.array .long) Z h192 b187 [(.ref r131), .null, .null] := A192
      refine o_iconst H192 (1 : Int32) rfl d4_105 rfl ?_
      refine o_istore H192 (L' := #[.val (.ref a1), .val (.int p1), .val (.int ((ws.length.toInt32) * (64 : Int32))), .val (.ref r131), .val (.int (3 : Int32)), .val (.ref b187), .val (.int (1 : Int32)), .unset, .unset, .unset]) rfl d4_106 rfl ?_
      refine o_iload H192 rfl d4_108 rfl ?_
      refine o_iload H192 rfl d4_110 rfl ?_
      refine o_icmp_f H192 d4_112 (by decide) rfl ?_
      refine o_aload H192 rfl rfl d4_115 rfl ?_
      refine o_iload H192 rfl d4_117 rfl ?_
      refine o_iconst H192 (1 : Int32) rfl d4_119 rfl ?_
      refine o_isub H192 d4_120 rfl ?_
      refine o_aaload H192 0 (.ref r131) AR192 rfl (by decide) rfl d4_121 rfl ?_
      refine o_astore H192 (L' := #[.val (.ref a1), .val (.int p1), .val (.int ((ws.length.toInt32) * (64 : Int32))), .val (.ref r131), .val (.int (3 : Int32)), .val (.ref b187), .val (.int (1 : Int32)), .val (.ref r131), .unset, .unset]) rfl rfl d4_122 rfl ?_
      refine o_aload H192 rfl rfl d4_124 rfl ?_
      refine o_arraylength H192 nn f195 (own_ln hN (by rw [List.length_map]; exact hrl)) d4_126 rfl ?_
      refine o_bipush H192 (64 : Int32) rfl d4_127 rfl ?_
      refine o_iadd H192 d4_129 rfl ?_
      refine o_iconst H192 (1 : Int32) rfl d4_130 rfl ?_
      refine o_isub H192 d4_131 rfl ?_
      refine o_bipush H192 (64 : Int32) rfl d4_132 rfl ?_
      refine o_idiv H192 (by decide) d4_134 rfl ?_
      obtain ⟨zz1, e_zz1⟩ : ∃ z : Int32, z = (((nn + (64 : Int32)) - (1 : Int32)) / (64 : Int32)) := ⟨_, rfl⟩
      rw [← e_zz1]
      have hZ1 := own_up hN (by omega)
      rw [← e_zz1] at hZ1
      clear e_zz1
      refine o_newarrE (aty := .long) H192 17 ((N + 63) / 64) (w23 hw) hZ1 (by omega) (by decide) d4_135 rfl (by decide) (by decide) (ad := "[J") (by decide) ?_
      intro T198 h198 b198 g198 H198 E198 A198 X198
      have ne198_a1 : a1 ≠ b198 := by rw [g198]; exact Nat.ne_of_lt (f193).lt
      have ne198_r131 : r131 ≠ b198 := by rw [g198]; exact Nat.ne_of_lt (f195).lt
      have ne198_b187 : b187 ≠ b198 := by rw [g198]; exact Nat.ne_of_lt (AR192).lt
      have z198 : n0 ≤ b198 := by rw [g198]; exact H192.le
      have f199 := f193.ext E198
      have f200 := f194.ext E198
      have f201 := f195.ext E198
      have f202 := f196.ext E198
      have f203 := AR192.ext E198
      have f204 := f197.ext E198
      have AZ198 : oA .long Z h198 b198 ((List.replicate ((N + 63) / 64) (0 : Int64)).map Value.long) := by rw [List.map_replicate]; exact A198
      refine o_astore H198 (L' := #[.val (.ref a1), .val (.int p1), .val (.int ((ws.length.toInt32) * (64 : Int32))), .val (.ref r131), .val (.int (3 : Int32)), .val (.ref b187), .val (.int (1 : Int32)), .val (.ref r131), .val (.ref b198), .unset]) rfl rfl d4_137 rfl ?_
      refine o_iconst H198 (0 : Int32) rfl d4_139 rfl ?_
      refine o_istore H198 (L' := #[.val (.ref a1), .val (.int p1), .val (.int ((ws.length.toInt32) * (64 : Int32))), .val (.ref r131), .val (.int (3 : Int32)), .val (.ref b187), .val (.int (1 : Int32)), .val (.ref r131), .val (.ref b198), .val (.int (0 : Int32))]) rfl d4_140 rfl ?_
      refine rmG_130 l Z a0 hw a1 r131 b187 r131 b198 p1 ((ws.length.toInt32) * (64 : Int32)) (3 : Int32) (1 : Int32) nn (ws ++ List.replicate (N - ws.length) (0 : Int64)) _ h198 n0 3 150 f201 (by rw [hrl]; exact hN) (own_fz _ hf) p e s m below meth c T198 H198 ?_ (ws ++ List.replicate (N - ws.length) (0 : Int64)).length 0 (0 : Int32) (by omega) rfl
      refine o_aload H198 rfl rfl d4_183 rfl ?_
      refine o_iload H198 rfl d4_185 rfl ?_
      refine o_aload H198 rfl rfl d4_187 rfl ?_
      refine o_aastore H198 1 f203 f204 (Ins.self X198) (by decide) (Nat.le_of_ble_eq_true rfl) z187 d4_189 rfl ?_
      intro T205 h205 H205 W205 A205
      have f206 := f199.wr W205
      have f207 := f200.other W205 (Or.inl ne187_a1)
      have f208 := f201.other W205 ne187_r131
      have f209 := f202.wr W205
      have f210 := AZ198.other W205 (Ne.symm ne198_b187)
      have f211 := X198.wr W205
      have f212 := f204.wr W205
      have AR205 : oA (.array .long) Z h205 b187 [(.ref r131), (.ref b198), .null] := A205
      refine o_iinc H205 (1 : Int32) (2 : Int32) rfl (by decide) rfl (L' := #[.val (.ref a1), .val (.int p1), .val (.int ((ws.length.toInt32) * (64 : Int32))), .val (.ref r131), .val (.int (3 : Int32)), .val (.ref b187), .val (.int (2 : Int32)), .val (.ref r131), .val (.ref b198), .val (.int nn)]) rfl d4_190 rfl ?_
      refine o_goto H205 d4_193 (pt := 108) (by decide) (by decide) ?_
      refine o_iload H205 rfl d4_108 rfl ?_
      refine o_iload H205 rfl d4_110 rfl ?_
      refine o_icmp_f H205 d4_112 (by decide) rfl ?_
      refine o_aload H205 rfl rfl d4_115 rfl ?_
      refine o_iload H205 rfl d4_117 rfl ?_
      refine o_iconst H205 (1 : Int32) rfl d4_119 rfl ?_
      refine o_isub H205 d4_120 rfl ?_
      refine o_aaload H205 1 (.ref b198) AR205 rfl (by decide) rfl d4_121 rfl ?_
      refine o_astore H205 (L' := #[.val (.ref a1), .val (.int p1), .val (.int ((ws.length.toInt32) * (64 : Int32))), .val (.ref r131), .val (.int (3 : Int32)), .val (.ref b187), .val (.int (2 : Int32)), .val (.ref b198), .val (.ref b198), .val (.int nn)]) rfl rfl d4_122 rfl ?_
      refine o_aload H205 rfl rfl d4_124 rfl ?_
      refine o_arraylength H205 zz1 f210 (own_ln hZ1 (by rw [List.length_map, List.length_replicate])) d4_126 rfl ?_
      refine o_bipush H205 (64 : Int32) rfl d4_127 rfl ?_
      refine o_iadd H205 d4_129 rfl ?_
      refine o_iconst H205 (1 : Int32) rfl d4_130 rfl ?_
      refine o_isub H205 d4_131 rfl ?_
      refine o_bipush H205 (64 : Int32) rfl d4_132 rfl ?_
      refine o_idiv H205 (by decide) d4_134 rfl ?_
      obtain ⟨zz2, e_zz2⟩ : ∃ z : Int32, z = (((zz1 + (64 : Int32)) - (1 : Int32)) / (64 : Int32)) := ⟨_, rfl⟩
      rw [← e_zz2]
      have hZ2 := own_up hZ1 (by omega)
      rw [← e_zz2] at hZ2
      clear e_zz2
      refine o_newarrE (aty := .long) H205 1 (((N + 63) / 64 + 63) / 64) (w23 hw) hZ2 (by omega) (by decide) d4_135 rfl (by decide) (by decide) (ad := "[J") (by decide) ?_
      intro T213 h213 b213 g213 H213 E213 A213 X213
      have ne213_a1 : a1 ≠ b213 := by rw [g213]; exact Nat.ne_of_lt (f206).lt
      have ne213_r131 : r131 ≠ b213 := by rw [g213]; exact Nat.ne_of_lt (f208).lt
      have ne213_b187 : b187 ≠ b213 := by rw [g213]; exact Nat.ne_of_lt (AR205).lt
      have ne213_b198 : b198 ≠ b213 := by rw [g213]; exact Nat.ne_of_lt (f210).lt
      have z213 : n0 ≤ b213 := by rw [g213]; exact H205.le
      have f214 := f206.ext E213
      have f215 := f207.ext E213
      have f216 := f208.ext E213
      have f217 := f209.ext E213
      have f218 := AR205.ext E213
      have f219 := f210.ext E213
      have f220 := f211.ext E213
      have f221 := f212.ext E213
      have AZ213 : oA .long Z h213 b213 ((List.replicate (((N + 63) / 64 + 63) / 64) (0 : Int64)).map Value.long) := by rw [List.map_replicate]; exact A213
      refine o_astore H213 (L' := #[.val (.ref a1), .val (.int p1), .val (.int ((ws.length.toInt32) * (64 : Int32))), .val (.ref r131), .val (.int (3 : Int32)), .val (.ref b187), .val (.int (2 : Int32)), .val (.ref b198), .val (.ref b213), .val (.int nn)]) rfl rfl d4_137 rfl ?_
      refine o_iconst H213 (0 : Int32) rfl d4_139 rfl ?_
      refine o_istore H213 (L' := #[.val (.ref a1), .val (.int p1), .val (.int ((ws.length.toInt32) * (64 : Int32))), .val (.ref r131), .val (.int (3 : Int32)), .val (.ref b187), .val (.int (2 : Int32)), .val (.ref b198), .val (.ref b213), .val (.int (0 : Int32))]) rfl d4_140 rfl ?_
      refine rmG_130 l Z a0 hw a1 r131 b187 b198 b213 p1 ((ws.length.toInt32) * (64 : Int32)) (3 : Int32) (2 : Int32) zz1 (List.replicate ((N + 63) / 64) (0 : Int64)) _ h213 n0 4 151 f219 (by rw [List.length_replicate]; exact hZ1) (own_fr _) p e s m below meth c T213 H213 ?_ (List.replicate ((N + 63) / 64) (0 : Int64)).length 0 (0 : Int32) (by omega) rfl
      refine o_aload H213 rfl rfl d4_183 rfl ?_
      refine o_iload H213 rfl d4_185 rfl ?_
      refine o_aload H213 rfl rfl d4_187 rfl ?_
      refine o_aastore H213 2 f218 f221 (Ins.self X213) (by decide) (Nat.le_of_ble_eq_true rfl) z187 d4_189 rfl ?_
      intro T222 h222 H222 W222 A222
      have f223 := f214.wr W222
      have f224 := f215.other W222 (Or.inl ne187_a1)
      have f225 := f216.other W222 ne187_r131
      have f226 := f217.wr W222
      have f227 := f219.other W222 (Ne.symm ne198_b187)
      have f228 := f220.wr W222
      have f229 := AZ213.other W222 (Ne.symm ne213_b187)
      have f230 := X213.wr W222
      have f231 := f221.wr W222
      have AR222 : oA (.array .long) Z h222 b187 [(.ref r131), (.ref b198), (.ref b213)] := A222
      refine o_iinc H222 (1 : Int32) (3 : Int32) rfl (by decide) rfl (L' := #[.val (.ref a1), .val (.int p1), .val (.int ((ws.length.toInt32) * (64 : Int32))), .val (.ref r131), .val (.int (3 : Int32)), .val (.ref b187), .val (.int (3 : Int32)), .val (.ref b198), .val (.ref b213), .val (.int zz1)]) rfl d4_190 rfl ?_
      refine o_goto H222 d4_193 (pt := 108) (by decide) (by decide) ?_
      refine o_iload H222 rfl d4_108 rfl ?_
      refine o_iload H222 rfl d4_110 rfl ?_
      refine o_icmp_t H222 d4_112 (by decide) (pt := 196) (by decide) (by decide) ?_
      refine o_aloadN H222 rfl rfl d4_196 rfl ?_
      refine o_aload H222 rfl rfl d4_197 rfl ?_
      refine o_putF H222 (host := "") (Or.inl (w12 hw)) f224 f223 (Or.inl (w13 hw)) (w2 hw) (ty := (.array (.array .long))) (by decide) rfl rfl g_a1 d4_199 rfl ?_
      intro T232 h232 H232 W232
      have f233 := f223.wr W232
      have f234 := f224.same W232
      have f235 := f225.other W232 (Ne.symm na131)
      have f236 := f226.wr W232
      have f237 := AR222.other W232 (Ne.symm ne187_a1)
      have f238 := f227.other W232 (Ne.symm ne198_a1)
      have f239 := f228.wr W232
      have f240 := f229.other W232 (Ne.symm ne213_a1)
      have f241 := f230.wr W232
      have f242 := f231.wr W232
      have hne2 : (ws ++ List.replicate (N - ws.length) (0 : Int64)) ≠ [] := by intro q; rw [q] at hrl; simp at hrl; omega
      have AU : oA .long Z h232 b198 ((List.replicate (((ws ++ List.replicate (N - ws.length) (0 : Int64)).length + 63) / 64) (0 : Int64)).map Value.long) := by rw [hrl]; exact f238
      exact o_return H232 rfl d4_202 (by decide) (by decide) ⟨rfl, (ws ++ List.replicate (N - ws.length) (0 : Int64)), ⟨b187, _, f233, g_a1, f234, f237, Or.inr ⟨r131, _, rfl, hne2, f235, z131, (Ne.symm na131), ne187_r131, Or.inr ⟨b198, _, rfl, (Ne.symm ne198_r131), AU⟩⟩⟩, by rw [hrl]; exact hNB, by rw [hrl]; exact hiN, _, rfl⟩
set_option maxRecDepth 65536 in
set_option maxHeartbeats 40000000 in
theorem rmG_1024 (l : Launch) (Z : State) (a0 : Array Value) (hw : ∀ d ∈ tables_1, d.before a0 Z = true) (a1 r3 l5 q7 w8 : Addr) (p1 o2 c4 i6 zl : Int32) (us : List Int64) (Q : Option Value → Heap → Prop) (h : Heap) (n0 cc ss : Nat) (AQ : oA .long Z h q7 (us.map Value.long)) (hz : zl.toInt = (us.length : Int)) (hne : ∀ k, ¬ us.getD k 0 = -1) (p : Program) (e : Env) (s : State) (m : MethodId) (below : List Frame) (meth : Method) (c : Code) (T : State) (H : oH p l e ({ frames := 3, cells := 5, slots := 1060, locals := 60 } : Room) s m #[.ref a1, .int p1] below meth c prog_62_method_8_code 10 (⟨"com/example/following_sibling/followingsibling/MarkedIndexes", "grow", "(I)V"⟩ : MethodName) none Z n0 T h cc ss) (K : oG p e below s n0 5 1060 (Q) (T.setTop (mkF m 183 #[.val (.ref a1), .val (.int p1), .val (.int o2), .val (.ref r3), .val (.int c4), .val (.ref l5), .val (.int i6), .val (.ref q7), .val (.ref w8), .val (.int zl)] []))) :
    ∀ (d j : Nat) (yy : Int32), j + d = us.length → yy.toInt = (j : Int) → oG p e below s n0 5 1060 (Q) (T.setTop (mkF m 142 #[.val (.ref a1), .val (.int p1), .val (.int o2), .val (.ref r3), .val (.int c4), .val (.ref l5), .val (.int i6), .val (.ref q7), .val (.ref w8), .val (.int yy)] [])) := by
  intro d
  induction d with
  | zero =>
    intro j yy hd hy
    refine o_iload H rfl d4_142 rfl ?_
    refine o_aload H rfl rfl d4_144 rfl ?_
    refine o_arraylength H zl AQ (own_ln hz (by rw [List.length_map])) d4_146 rfl ?_
    refine o_icmp_t H d4_147 (XT.ii_ge_t (by rw [own_inx hy hz]; omega)) (pt := 183) (by decide) (by decide) ?_
    obtain rfl : yy = zl := by rw [n_eq, hy, hz]; omega
    exact K
  | succ d ih =>
    intro j yy hd hy
    have hj : j < us.length := by omega
    have hl := own_nl (n := us.length)
    refine o_iload H rfl d4_142 rfl ?_
    refine o_aload H rfl rfl d4_144 rfl ?_
    refine o_arraylength H zl AQ (own_ln hz (by rw [List.length_map])) d4_146 rfl ?_
    refine o_icmp_f H d4_147 (XT.ii_ge_f ((own_inx hy hz).mpr hj)) rfl ?_
    refine o_aload H rfl rfl d4_150 rfl ?_
    refine o_iload H rfl d4_152 rfl ?_
    refine o_laload H j (.long (us.getD j 0)) AQ hy (own_get hj) d4_154 rfl ?_
    refine o_ldcJ H (-1 : Int64) (w40 hw) d4_155 rfl ?_
    refine o_lcmp H d4_158 rfl ?_
    refine o_ifl_ne H d4_159 (pt := 177) (by decide) (by decide) rfl ?_ ?_
    · intro c159_1
      refine o_iinc H (1 : Int32) (yy + (1 : Int32)) rfl rfl rfl (L' := #[.val (.ref a1), .val (.int p1), .val (.int o2), .val (.ref r3), .val (.int c4), .val (.ref l5), .val (.int i6), .val (.ref q7), .val (.ref w8), .val (.int (yy + (1 : Int32)))]) rfl d4_177 rfl ?_
      refine o_goto H d4_180 (pt := 142) (by decide) (by decide) ?_
      exact ih (j + 1) (yy + 1) (by omega) (own_p1' hy (by have := Int32.toInt_lt zl; omega))
    · intro c159_1
      exact absurd c159_1 (hne j)
set_option maxRecDepth 65536 in
set_option maxHeartbeats 40000000 in
theorem rm4_1024 (l : Launch) (Z : State) (a0 : Array Value) (hw : ∀ d ∈ tables_1, d.before a0 Z = true) (a1 : Addr) (p1 : Int32) (ws : List Int64) (i : Nat) (h0 : Heap) (n0 : Nat) (Z0 : n0 ≤ h0.size) (MM : own_M Z h0 n0 a1 ws) (hp : p1.toInt = ((i + 1 : Nat) : Int)) (hi : i < 65536) (hn0 : ws.length ≤ 130) (hg : 64 * ws.length ≤ i) (hf : ∀ k, ¬ ws.getD k 0 = -1) :
    oC l Z n0 (⟨"com/example/following_sibling/followingsibling/MarkedIndexes", "grow", "(I)V"⟩ : MethodName) prog_62_method_8_code 10 none ({ frames := 3, cells := 5, slots := 1060, locals := 60 } : Room) 5 1060 #[(.ref a1), (.int p1)] h0 (fun v h => v = none ∧ ∃ ws2, own_M Z h n0 a1 ws2 ∧ ws2.length ≤ 1024 ∧ i / 64 < ws2.length ∧ ∃ k, ws2 = ws ++ List.replicate k (0 : Int64)) := by
  refine oC.of (L := #[.val (.ref a1), .val (.int p1), .unset, .unset, .unset, .unset, .unset, .unset, .unset, .unset]) pn4 Z0 (fun m => by first | (simp [entryFrame, mkF, argsToLocals, Value.category]; done) | rfl) ?_
  intro p e s m below meth c T H
  have MM0 := MM
  obtain ⟨la, vs, E_a1, g_a1, FL, AL, hc⟩ := MM
  rcases hc with ⟨rfl, rfl⟩ | ⟨w0, rest, rfl, hne, A0, g_w0, nwa, nwl, hup⟩
  · skip
    refine o_aloadN H rfl rfl d4_0 rfl ?_
    refine o_getF H (host := "") (Or.inl (w12 hw)) FL d4_1 rfl ?_
    intro T1 H2
    refine o_arraylength H2 (0 : Int32) AL rfl d4_4 rfl ?_
    refine o_if_f H2 d4_5 (by decide) rfl ?_
    refine o_iconst H2 (0 : Int32) rfl d4_8 rfl ?_
    refine o_goto H2 d4_9 (pt := 22) (by decide) (by decide) ?_
    refine o_istoreN H2 (L' := #[.val (.ref a1), .val (.int p1), .val (.int (0 : Int32)), .unset, .unset, .unset, .unset, .unset, .unset, .unset]) rfl d4_22 rfl ?_
    refine o_aloadN H2 rfl rfl d4_23 rfl ?_
    refine o_getF H2 (host := "") (Or.inl (w12 hw)) FL d4_24 rfl ?_
    intro T3 H4
    refine o_arraylength H4 (0 : Int32) AL rfl d4_27 rfl ?_
    refine o_if_f H4 d4_28 (by decide) rfl ?_
    refine o_iconst H4 (0 : Int32) rfl d4_31 rfl ?_
    refine o_newarrE (aty := .long) H4 0 0 (w23 hw) (by decide) (by decide) (by decide) d4_32 rfl (by decide) (by decide) (ad := "[J") (by decide) ?_
    intro T5 h5 b5 g5 H5 E5 A5 X5
    have ne5_a1 : a1 ≠ b5 := by rw [g5]; exact Nat.ne_of_lt (E_a1).lt
    have ne5_la : la ≠ b5 := by rw [g5]; exact Nat.ne_of_lt (AL).lt
    have z5 : n0 ≤ b5 := by rw [g5]; exact H4.le
    have f6 := E_a1.ext E5
    have f7 := FL.ext E5
    have f8 := AL.ext E5
    have AZ5 : oA .long Z h5 b5 ((List.replicate 0 (0 : Int64)).map Value.long) := by rw [List.map_replicate]; exact A5
    refine o_goto H5 d4_34 (pt := 43) (by decide) (by decide) ?_
    refine o_iloadN H5 rfl d4_43 rfl ?_
    refine o_iconst H5 (2 : Int32) rfl d4_44 rfl ?_
    refine o_iloadN H5 rfl d4_45 rfl ?_
    refine o_imul H5 d4_46 rfl ?_
    refine o_static H5 [(.int p1), (.int ((2 : Int32) * (0 : Int32)))] [(.ref b5)] (rm5 l Z a0 hw p1 ((2 : Int32) * (0 : Int32)) h5 n0 H5.le) (w24 hw) (w25 hw) (w26 hw) (w27 hw) (by decide) (lenOf pd5 rfl) rfl rfl (by decide) (Nat.le_of_ble_eq_true rfl) (by decide) (by decide) d4_47 rfl ?_
    intro T9 v9 h9 H9 q9
    obtain ⟨rfl, rfl⟩ := q9
    show oG p e below s n0 _ _ _ (T9.setTop (mkF m 50 #[.val (.ref a1), .val (.int p1), .val (.int (0 : Int32)), .unset, .unset, .unset, .unset, .unset, .unset, .unset] [(.int (own_mx p1 ((2 : Int32) * (0 : Int32)))), (.ref b5)]))
    refine o_bipush H9 (64 : Int32) rfl d4_50 rfl ?_
    refine o_iadd H9 d4_52 rfl ?_
    refine o_iconst H9 (1 : Int32) rfl d4_53 rfl ?_
    refine o_isub H9 d4_54 rfl ?_
    refine o_bipush H9 (64 : Int32) rfl d4_55 rfl ?_
    refine o_idiv H9 (by decide) d4_57 rfl ?_
    obtain ⟨nn, e_nn⟩ : ∃ z : Int32, z = ((((own_mx p1 ((2 : Int32) * (0 : Int32))) + (64 : Int32)) - (1 : Int32)) / (64 : Int32)) := ⟨_, rfl⟩
    rw [← e_nn]
    obtain ⟨N, hN, hlt, hiN, h1N, h1024, h130⟩ := own_gN (p := p1) (old := (0 : Int32)) (i := i) (n := 0) hp rfl (by omega) (by omega) (by omega)
    rw [← e_nn] at hN
    have hNB : N ≤ 1024 := by omega
    clear e_nn
    refine o_static H9 [(.ref b5), (.int nn)] [] (rm6_1024 l Z a0 hw b5 nn ([] : List Int64) N h5 n0 H9.le AZ5 hN hlt hNB) (w28 hw) (w29 hw) (w30 hw) (w31 hw) (by decide) (lenOf pd6 rfl) rfl rfl (by decide) (Nat.le_of_ble_eq_true rfl) (by decide) (by decide) d4_58 rfl ?_
    intro T10 v10 h10 H10 q10
    obtain ⟨r10, rfl, K10, A10, X10, z10, y10⟩ := q10
    have na10 : a1 ≠ r10 := Nat.ne_of_lt (Nat.lt_of_lt_of_le (f6).lt y10)
    have f11 := f6.keep K10
    have f12 := f7.keep K10 nin0
    have hrl : (([] : List Int64) ++ List.replicate (N - ([] : List Int64).length) (0 : Int64)).length = N := by rw [List.length_append, List.length_replicate]; simp
    show oG p e below s n0 _ _ _ (T10.setTop (mkF m 61 #[.val (.ref a1), .val (.int p1), .val (.int (0 : Int32)), .unset, .unset, .unset, .unset, .unset, .unset, .unset] [(.ref r10)]))
    refine o_astoreN H10 (L' := #[.val (.ref a1), .val (.int p1), .val (.int (0 : Int32)), .val (.ref r10), .unset, .unset, .unset, .unset, .unset, .unset]) rfl rfl d4_61 rfl ?_
    refine o_iconst H10 (1 : Int32) rfl d4_62 rfl ?_
    refine o_istore H10 (L' := #[.val (.ref a1), .val (.int p1), .val (.int (0 : Int32)), .val (.ref r10), .val (.int (1 : Int32)), .unset, .unset, .unset, .unset, .unset]) rfl d4_63 rfl ?_
    refine o_aloadN H10 rfl rfl d4_65 rfl ?_
    refine o_arraylength H10 nn A10 (own_ln hN (by rw [List.length_map]; exact hrl)) d4_66 rfl ?_
    refine o_istore H10 (L' := #[.val (.ref a1), .val (.int p1), .val (.int (0 : Int32)), .val (.ref r10), .val (.int (1 : Int32)), .val (.int nn), .unset, .unset, .unset, .unset]) rfl d4_67 rfl ?_
    have cN : N = 1 ∨ (2 ≤ N ∧ N ≤ 64) ∨ (65 ≤ N ∧ N ≤ 1024) := by omega
    rcases cN with cN | cN | cN
    · skip
      refine o_iload H10 rfl d4_69 rfl ?_
      refine o_iconst H10 (1 : Int32) rfl d4_71 rfl ?_
      refine o_icmp_t H10 d4_72 (XT.ii_le_t (own_lt1 hN (by omega))) (pt := 93) (by decide) (by decide) ?_
      refine o_iload H10 rfl d4_93 rfl ?_
      refine o_anewarr H10 3 1 (w10 hw) (w11 hw) (by decide) (by decide) (by decide) d4_95 rfl (by decide) (by decide) ?_
      intro T13 h13 b13 g13 H13 E13 A13 V13
      have ne13_a1 : a1 ≠ b13 := by rw [g13]; exact Nat.ne_of_lt (f11).lt
      have ne13_r10 : r10 ≠ b13 := by rw [g13]; exact Nat.ne_of_lt (A10).lt
      have z13 : n0 ≤ b13 := by rw [g13]; exact H10.le
      have f14 := f11.ext E13
      have f15 := f12.ext E13
      have f16 := A10.ext E13
      have f17 := X10.ext E13
      have AR13 : oA (.array .long) Z h13 b13 [.null] := A13
      refine o_astore H13 (L' := #[.val (.ref a1), .val (.int p1), .val (.int (0 : Int32)), .val (.ref r10), .val (.int (1 : Int32)), .val (.ref b13), .unset, .unset, .unset, .unset]) rfl rfl d4_98 rfl ?_
      refine o_aload H13 rfl rfl d4_100 rfl ?_
      refine o_iconst H13 (0 : Int32) rfl d4_102 rfl ?_
      refine o_aloadN H13 rfl rfl d4_103 rfl ?_
      refine o_aastore H13 0 AR13 V13 (Ins.self f17) (by decide) (Nat.le_of_ble_eq_true rfl) z13 d4_104 rfl ?_
      intro T18 h18 H18 W18 A18
      have f19 := f14.wr W18
      have f20 := f15.other W18 (Or.inl ne13_a1)
      have f21 := f16.other W18 ne13_r10
      have f22 := f17.wr W18
      have f23 := V13.wr W18
      have AR18 : oA (.array .long) Z h18 b13 [(.ref r10)] := A18
      refine o_iconst H18 (1 : Int32) rfl d4_105 rfl ?_
      refine o_istore H18 (L' := #[.val (.ref a1), .val (.int p1), .val (.int (0 : Int32)), .val (.ref r10), .val (.int (1 : Int32)), .val (.ref b13), .val (.int (1 : Int32)), .unset, .unset, .unset]) rfl d4_106 rfl ?_
      refine o_iload H18 rfl d4_108 rfl ?_
      refine o_iload H18 rfl d4_110 rfl ?_
      refine o_icmp_t H18 d4_112 (by decide) (pt := 196) (by decide) (by decide) ?_
      refine o_aloadN H18 rfl rfl d4_196 rfl ?_
      refine o_aload H18 rfl rfl d4_197 rfl ?_
      refine o_putF H18 (host := "") (Or.inl (w12 hw)) f20 f19 (Or.inl (w13 hw)) (w2 hw) (ty := (.array (.array .long))) (by decide) rfl rfl g_a1 d4_199 rfl ?_
      intro T24 h24 H24 W24
      have f25 := f19.wr W24
      have f26 := f20.same W24
      have f27 := f21.other W24 (Ne.symm na10)
      have f28 := f22.wr W24
      have f29 := AR18.other W24 (Ne.symm ne13_a1)
      have f30 := f23.wr W24
      have hne2 : (([] : List Int64) ++ List.replicate (N - ([] : List Int64).length) (0 : Int64)) ≠ [] := by intro q; rw [q] at hrl; simp at hrl; omega
      exact o_return H24 rfl d4_202 (by decide) (by decide) ⟨rfl, (([] : List Int64) ++ List.replicate (N - ([] : List Int64).length) (0 : Int64)), ⟨b13, _, f25, g_a1, f26, f29, Or.inr ⟨r10, _, rfl, hne2, f27, z10, (Ne.symm na10), ne13_r10, Or.inl ⟨rfl, by rw [hrl]; exact cN⟩⟩⟩, by rw [hrl]; exact hNB, by rw [hrl]; exact hiN, _, rfl⟩
    · skip
      refine o_iload H10 rfl d4_69 rfl ?_
      refine o_iconst H10 (1 : Int32) rfl d4_71 rfl ?_
      refine o_icmp_f H10 d4_72 (XT.ii_le_f (own_gt1 hN (by omega))) rfl ?_
      refine o_iinc H10 (1 : Int32) (2 : Int32) rfl (by decide) rfl (L' := #[.val (.ref a1), .val (.int p1), .val (.int (0 : Int32)), .val (.ref r10), .val (.int (2 : Int32)), .val (.int nn), .unset, .unset, .unset, .unset]) rfl d4_75 rfl ?_
      refine o_iload H10 rfl d4_78 rfl ?_
      refine o_bipush H10 (64 : Int32) rfl d4_80 rfl ?_
      refine o_iadd H10 d4_82 rfl ?_
      refine o_iconst H10 (1 : Int32) rfl d4_83 rfl ?_
      refine o_isub H10 d4_84 rfl ?_
      refine o_bipush H10 (64 : Int32) rfl d4_85 rfl ?_
      refine o_idiv H10 (by decide) d4_87 rfl ?_
      refine o_istore H10 (L' := #[.val (.ref a1), .val (.int p1), .val (.int (0 : Int32)), .val (.ref r10), .val (.int (2 : Int32)), .val (.int (((nn + (64 : Int32)) - (1 : Int32)) / (64 : Int32))), .unset, .unset, .unset, .unset]) rfl d4_88 rfl ?_
      obtain ⟨n1, e_n1⟩ : ∃ z : Int32, z = (((nn + (64 : Int32)) - (1 : Int32)) / (64 : Int32)) := ⟨_, rfl⟩
      rw [← e_n1]
      have hN1 := own_up hN (by omega)
      rw [← e_n1] at hN1
      clear e_n1
      refine o_goto H10 d4_90 (pt := 69) (by decide) (by decide) ?_
      refine o_iload H10 rfl d4_69 rfl ?_
      refine o_iconst H10 (1 : Int32) rfl d4_71 rfl ?_
      refine o_icmp_t H10 d4_72 (XT.ii_le_t (own_lt1 hN1 (by omega))) (pt := 93) (by decide) (by decide) ?_
      refine o_iload H10 rfl d4_93 rfl ?_
      refine o_anewarr H10 3 2 (w10 hw) (w11 hw) (by decide) (by decide) (by decide) d4_95 rfl (by decide) (by decide) ?_
      intro T31 h31 b31 g31 H31 E31 A31 V31
      have ne31_a1 : a1 ≠ b31 := by rw [g31]; exact Nat.ne_of_lt (f11).lt
      have ne31_r10 : r10 ≠ b31 := by rw [g31]; exact Nat.ne_of_lt (A10).lt
      have z31 : n0 ≤ b31 := by rw [g31]; exact H10.le
      have f32 := f11.ext E31
      have f33 := f12.ext E31
      have f34 := A10.ext E31
      have f35 := X10.ext E31
      have AR31 : oA (.array .long) Z h31 b31 [.null, .null] := A31
      refine o_astore H31 (L' := #[.val (.ref a1), .val (.int p1), .val (.int (0 : Int32)), .val (.ref r10), .val (.int (2 : Int32)), .val (.ref b31), .unset, .unset, .unset, .unset]) rfl rfl d4_98 rfl ?_
      refine o_aload H31 rfl rfl d4_100 rfl ?_
      refine o_iconst H31 (0 : Int32) rfl d4_102 rfl ?_
      refine o_aloadN H31 rfl rfl d4_103 rfl ?_
      refine o_aastore H31 0 AR31 V31 (Ins.self f35) (by decide) (Nat.le_of_ble_eq_true rfl) z31 d4_104 rfl ?_
      intro T36 h36 H36 W36 A36
      have f37 := f32.wr W36
      have f38 := f33.other W36 (Or.inl ne31_a1)
      have f39 := f34.other W36 ne31_r10
      have f40 := f35.wr W36
      have f41 := V31.wr W36
      have AR36 : oA (.array .long) Z h36 b31 [(.ref r10), .null] := A36
      refine o_iconst H36 (1 : Int32) rfl d4_105 rfl ?_
      refine o_istore H36 (L' := #[.val (.ref a1), .val (.int p1), .val (.int (0 : Int32)), .val (.ref r10), .val (.int (2 : Int32)), .val (.ref b31), .val (.int (1 : Int32)), .unset, .unset, .unset]) rfl d4_106 rfl ?_
      refine o_iload H36 rfl d4_108 rfl ?_
      refine o_iload H36 rfl d4_110 rfl ?_
      refine o_icmp_f H36 d4_112 (by decide) rfl ?_
      refine o_aload H36 rfl rfl d4_115 rfl ?_
      refine o_iload H36 rfl d4_117 rfl ?_
      refine o_iconst H36 (1 : Int32) rfl d4_119 rfl ?_
      refine o_isub H36 d4_120 rfl ?_
      refine o_aaload H36 0 (.ref r10) AR36 rfl (by decide) rfl d4_121 rfl ?_
      refine o_astore H36 (L' := #[.val (.ref a1), .val (.int p1), .val (.int (0 : Int32)), .val (.ref r10), .val (.int (2 : Int32)), .val (.ref b31), .val (.int (1 : Int32)), .val (.ref r10), .unset, .unset]) rfl rfl d4_122 rfl ?_
      refine o_aload H36 rfl rfl d4_124 rfl ?_
      refine o_arraylength H36 nn f39 (own_ln hN (by rw [List.length_map]; exact hrl)) d4_126 rfl ?_
      refine o_bipush H36 (64 : Int32) rfl d4_127 rfl ?_
      refine o_iadd H36 d4_129 rfl ?_
      refine o_iconst H36 (1 : Int32) rfl d4_130 rfl ?_
      refine o_isub H36 d4_131 rfl ?_
      refine o_bipush H36 (64 : Int32) rfl d4_132 rfl ?_
      refine o_idiv H36 (by decide) d4_134 rfl ?_
      obtain ⟨zz1, e_zz1⟩ : ∃ z : Int32, z = (((nn + (64 : Int32)) - (1 : Int32)) / (64 : Int32)) := ⟨_, rfl⟩
      rw [← e_zz1]
      have hZ1 := own_up hN (by omega)
      rw [← e_zz1] at hZ1
      clear e_zz1
      refine o_newarrE (aty := .long) H36 17 ((N + 63) / 64) (w23 hw) hZ1 (by omega) (by decide) d4_135 rfl (by decide) (by decide) (ad := "[J") (by decide) ?_
      intro T42 h42 b42 g42 H42 E42 A42 X42
      have ne42_a1 : a1 ≠ b42 := by rw [g42]; exact Nat.ne_of_lt (f37).lt
      have ne42_r10 : r10 ≠ b42 := by rw [g42]; exact Nat.ne_of_lt (f39).lt
      have ne42_b31 : b31 ≠ b42 := by rw [g42]; exact Nat.ne_of_lt (AR36).lt
      have z42 : n0 ≤ b42 := by rw [g42]; exact H36.le
      have f43 := f37.ext E42
      have f44 := f38.ext E42
      have f45 := f39.ext E42
      have f46 := f40.ext E42
      have f47 := AR36.ext E42
      have f48 := f41.ext E42
      have AZ42 : oA .long Z h42 b42 ((List.replicate ((N + 63) / 64) (0 : Int64)).map Value.long) := by rw [List.map_replicate]; exact A42
      refine o_astore H42 (L' := #[.val (.ref a1), .val (.int p1), .val (.int (0 : Int32)), .val (.ref r10), .val (.int (2 : Int32)), .val (.ref b31), .val (.int (1 : Int32)), .val (.ref r10), .val (.ref b42), .unset]) rfl rfl d4_137 rfl ?_
      refine o_iconst H42 (0 : Int32) rfl d4_139 rfl ?_
      refine o_istore H42 (L' := #[.val (.ref a1), .val (.int p1), .val (.int (0 : Int32)), .val (.ref r10), .val (.int (2 : Int32)), .val (.ref b31), .val (.int (1 : Int32)), .val (.ref r10), .val (.ref b42), .val (.int (0 : Int32))]) rfl d4_140 rfl ?_
      refine rmG_1024 l Z a0 hw a1 r10 b31 r10 b42 p1 (0 : Int32) (2 : Int32) (1 : Int32) nn (([] : List Int64) ++ List.replicate (N - ([] : List Int64).length) (0 : Int64)) _ h42 n0 4 1044 f45 (by rw [hrl]; exact hN) (own_fz _ hf) p e s m below meth c T42 H42 ?_ (([] : List Int64) ++ List.replicate (N - ([] : List Int64).length) (0 : Int64)).length 0 (0 : Int32) (by omega) rfl
      refine o_aload H42 rfl rfl d4_183 rfl ?_
      refine o_iload H42 rfl d4_185 rfl ?_
      refine o_aload H42 rfl rfl d4_187 rfl ?_
      refine o_aastore H42 1 f47 f48 (Ins.self X42) (by decide) (Nat.le_of_ble_eq_true rfl) z31 d4_189 rfl ?_
      intro T49 h49 H49 W49 A49
      have f50 := f43.wr W49
      have f51 := f44.other W49 (Or.inl ne31_a1)
      have f52 := f45.other W49 ne31_r10
      have f53 := f46.wr W49
      have f54 := AZ42.other W49 (Ne.symm ne42_b31)
      have f55 := X42.wr W49
      have f56 := f48.wr W49
      have AR49 : oA (.array .long) Z h49 b31 [(.ref r10), (.ref b42)] := A49
      refine o_iinc H49 (1 : Int32) (2 : Int32) rfl (by decide) rfl (L' := #[.val (.ref a1), .val (.int p1), .val (.int (0 : Int32)), .val (.ref r10), .val (.int (2 : Int32)), .val (.ref b31), .val (.int (2 : Int32)), .val (.ref r10), .val (.ref b42), .val (.int nn)]) rfl d4_190 rfl ?_
      refine o_goto H49 d4_193 (pt := 108) (by decide) (by decide) ?_
      refine o_iload H49 rfl d4_108 rfl ?_
      refine o_iload H49 rfl d4_110 rfl ?_
      refine o_icmp_t H49 d4_112 (by decide) (pt := 196) (by decide) (by decide) ?_
      refine o_aloadN H49 rfl rfl d4_196 rfl ?_
      refine o_aload H49 rfl rfl d4_197 rfl ?_
      refine o_putF H49 (host := "") (Or.inl (w12 hw)) f51 f50 (Or.inl (w13 hw)) (w2 hw) (ty := (.array (.array .long))) (by decide) rfl rfl g_a1 d4_199 rfl ?_
      intro T57 h57 H57 W57
      have f58 := f50.wr W57
      have f59 := f51.same W57
      have f60 := f52.other W57 (Ne.symm na10)
      have f61 := f53.wr W57
      have f62 := AR49.other W57 (Ne.symm ne31_a1)
      have f63 := f54.other W57 (Ne.symm ne42_a1)
      have f64 := f55.wr W57
      have f65 := f56.wr W57
      have hne2 : (([] : List Int64) ++ List.replicate (N - ([] : List Int64).length) (0 : Int64)) ≠ [] := by intro q; rw [q] at hrl; simp at hrl; omega
      have AU : oA .long Z h57 b42 ((List.replicate (((([] : List Int64) ++ List.replicate (N - ([] : List Int64).length) (0 : Int64)).length + 63) / 64) (0 : Int64)).map Value.long) := by rw [hrl]; exact f63
      exact o_return H57 rfl d4_202 (by decide) (by decide) ⟨rfl, (([] : List Int64) ++ List.replicate (N - ([] : List Int64).length) (0 : Int64)), ⟨b31, _, f58, g_a1, f59, f62, Or.inr ⟨r10, _, rfl, hne2, f60, z10, (Ne.symm na10), ne31_r10, Or.inr ⟨b42, _, rfl, (Ne.symm ne42_r10), AU⟩⟩⟩, by rw [hrl]; exact hNB, by rw [hrl]; exact hiN, _, rfl⟩
    · skip
      refine o_iload H10 rfl d4_69 rfl ?_
      refine o_iconst H10 (1 : Int32) rfl d4_71 rfl ?_
      refine o_icmp_f H10 d4_72 (XT.ii_le_f (own_gt1 hN (by omega))) rfl ?_
      refine o_iinc H10 (1 : Int32) (2 : Int32) rfl (by decide) rfl (L' := #[.val (.ref a1), .val (.int p1), .val (.int (0 : Int32)), .val (.ref r10), .val (.int (2 : Int32)), .val (.int nn), .unset, .unset, .unset, .unset]) rfl d4_75 rfl ?_
      refine o_iload H10 rfl d4_78 rfl ?_
      refine o_bipush H10 (64 : Int32) rfl d4_80 rfl ?_
      refine o_iadd H10 d4_82 rfl ?_
      refine o_iconst H10 (1 : Int32) rfl d4_83 rfl ?_
      refine o_isub H10 d4_84 rfl ?_
      refine o_bipush H10 (64 : Int32) rfl d4_85 rfl ?_
      refine o_idiv H10 (by decide) d4_87 rfl ?_
      refine o_istore H10 (L' := #[.val (.ref a1), .val (.int p1), .val (.int (0 : Int32)), .val (.ref r10), .val (.int (2 : Int32)), .val (.int (((nn + (64 : Int32)) - (1 : Int32)) / (64 : Int32))), .unset, .unset, .unset, .unset]) rfl d4_88 rfl ?_
      obtain ⟨n1, e_n1⟩ : ∃ z : Int32, z = (((nn + (64 : Int32)) - (1 : Int32)) / (64 : Int32)) := ⟨_, rfl⟩
      rw [← e_n1]
      have hN1 := own_up hN (by omega)
      rw [← e_n1] at hN1
      clear e_n1
      refine o_goto H10 d4_90 (pt := 69) (by decide) (by decide) ?_
      refine o_iload H10 rfl d4_69 rfl ?_
      refine o_iconst H10 (1 : Int32) rfl d4_71 rfl ?_
      refine o_icmp_f H10 d4_72 (XT.ii_le_f (own_gt1 hN1 (by omega))) rfl ?_
      refine o_iinc H10 (1 : Int32) (3 : Int32) rfl (by decide) rfl (L' := #[.val (.ref a1), .val (.int p1), .val (.int (0 : Int32)), .val (.ref r10), .val (.int (3 : Int32)), .val (.int n1), .unset, .unset, .unset, .unset]) rfl d4_75 rfl ?_
      refine o_iload H10 rfl d4_78 rfl ?_
      refine o_bipush H10 (64 : Int32) rfl d4_80 rfl ?_
      refine o_iadd H10 d4_82 rfl ?_
      refine o_iconst H10 (1 : Int32) rfl d4_83 rfl ?_
      refine o_isub H10 d4_84 rfl ?_
      refine o_bipush H10 (64 : Int32) rfl d4_85 rfl ?_
      refine o_idiv H10 (by decide) d4_87 rfl ?_
      refine o_istore H10 (L' := #[.val (.ref a1), .val (.int p1), .val (.int (0 : Int32)), .val (.ref r10), .val (.int (3 : Int32)), .val (.int (((n1 + (64 : Int32)) - (1 : Int32)) / (64 : Int32))), .unset, .unset, .unset, .unset]) rfl d4_88 rfl ?_
      obtain ⟨n2, e_n2⟩ : ∃ z : Int32, z = (((n1 + (64 : Int32)) - (1 : Int32)) / (64 : Int32)) := ⟨_, rfl⟩
      rw [← e_n2]
      have hN2 := own_up hN1 (by omega)
      rw [← e_n2] at hN2
      clear e_n2
      refine o_goto H10 d4_90 (pt := 69) (by decide) (by decide) ?_
      refine o_iload H10 rfl d4_69 rfl ?_
      refine o_iconst H10 (1 : Int32) rfl d4_71 rfl ?_
      refine o_icmp_t H10 d4_72 (XT.ii_le_t (own_lt1 hN2 (by omega))) (pt := 93) (by decide) (by decide) ?_
      refine o_iload H10 rfl d4_93 rfl ?_
      refine o_anewarr H10 3 3 (w10 hw) (w11 hw) (by decide) (by decide) (by decide) d4_95 rfl (by decide) (by decide) ?_
      intro T66 h66 b66 g66 H66 E66 A66 V66
      have ne66_a1 : a1 ≠ b66 := by rw [g66]; exact Nat.ne_of_lt (f11).lt
      have ne66_r10 : r10 ≠ b66 := by rw [g66]; exact Nat.ne_of_lt (A10).lt
      have z66 : n0 ≤ b66 := by rw [g66]; exact H10.le
      have f67 := f11.ext E66
      have f68 := f12.ext E66
      have f69 := A10.ext E66
      have f70 := X10.ext E66
      have AR66 : oA (.array .long) Z h66 b66 [.null, .null, .null] := A66
      refine o_astore H66 (L' := #[.val (.ref a1), .val (.int p1), .val (.int (0 : Int32)), .val (.ref r10), .val (.int (3 : Int32)), .val (.ref b66), .unset, .unset, .unset, .unset]) rfl rfl d4_98 rfl ?_
      refine o_aload H66 rfl rfl d4_100 rfl ?_
      refine o_iconst H66 (0 : Int32) rfl d4_102 rfl ?_
      refine o_aloadN H66 rfl rfl d4_103 rfl ?_
      refine o_aastore H66 0 AR66 V66 (Ins.self f70) (by decide) (Nat.le_of_ble_eq_true rfl) z66 d4_104 rfl ?_
      intro T71 h71 H71 W71 A71
      have f72 := f67.wr W71
      have f73 := f68.other W71 (Or.inl ne66_a1)
      have f74 := f69.other W71 ne66_r10
      have f75 := f70.wr W71
      have f76 := V66.wr W71
      have AR71 : oA (.array .long) Z h71 b66 [(.ref r10), .null, .null] := A71
      refine o_iconst H71 (1 : Int32) rfl d4_105 rfl ?_
      refine o_istore H71 (L' := #[.val (.ref a1), .val (.int p1), .val (.int (0 : Int32)), .val (.ref r10), .val (.int (3 : Int32)), .val (.ref b66), .val (.int (1 : Int32)), .unset, .unset, .unset]) rfl d4_106 rfl ?_
      refine o_iload H71 rfl d4_108 rfl ?_
      refine o_iload H71 rfl d4_110 rfl ?_
      refine o_icmp_f H71 d4_112 (by decide) rfl ?_
      refine o_aload H71 rfl rfl d4_115 rfl ?_
      refine o_iload H71 rfl d4_117 rfl ?_
      refine o_iconst H71 (1 : Int32) rfl d4_119 rfl ?_
      refine o_isub H71 d4_120 rfl ?_
      refine o_aaload H71 0 (.ref r10) AR71 rfl (by decide) rfl d4_121 rfl ?_
      refine o_astore H71 (L' := #[.val (.ref a1), .val (.int p1), .val (.int (0 : Int32)), .val (.ref r10), .val (.int (3 : Int32)), .val (.ref b66), .val (.int (1 : Int32)), .val (.ref r10), .unset, .unset]) rfl rfl d4_122 rfl ?_
      refine o_aload H71 rfl rfl d4_124 rfl ?_
      refine o_arraylength H71 nn f74 (own_ln hN (by rw [List.length_map]; exact hrl)) d4_126 rfl ?_
      refine o_bipush H71 (64 : Int32) rfl d4_127 rfl ?_
      refine o_iadd H71 d4_129 rfl ?_
      refine o_iconst H71 (1 : Int32) rfl d4_130 rfl ?_
      refine o_isub H71 d4_131 rfl ?_
      refine o_bipush H71 (64 : Int32) rfl d4_132 rfl ?_
      refine o_idiv H71 (by decide) d4_134 rfl ?_
      obtain ⟨zz1, e_zz1⟩ : ∃ z : Int32, z = (((nn + (64 : Int32)) - (1 : Int32)) / (64 : Int32)) := ⟨_, rfl⟩
      rw [← e_zz1]
      have hZ1 := own_up hN (by omega)
      rw [← e_zz1] at hZ1
      clear e_zz1
      refine o_newarrE (aty := .long) H71 17 ((N + 63) / 64) (w23 hw) hZ1 (by omega) (by decide) d4_135 rfl (by decide) (by decide) (ad := "[J") (by decide) ?_
      intro T77 h77 b77 g77 H77 E77 A77 X77
      have ne77_a1 : a1 ≠ b77 := by rw [g77]; exact Nat.ne_of_lt (f72).lt
      have ne77_r10 : r10 ≠ b77 := by rw [g77]; exact Nat.ne_of_lt (f74).lt
      have ne77_b66 : b66 ≠ b77 := by rw [g77]; exact Nat.ne_of_lt (AR71).lt
      have z77 : n0 ≤ b77 := by rw [g77]; exact H71.le
      have f78 := f72.ext E77
      have f79 := f73.ext E77
      have f80 := f74.ext E77
      have f81 := f75.ext E77
      have f82 := AR71.ext E77
      have f83 := f76.ext E77
      have AZ77 : oA .long Z h77 b77 ((List.replicate ((N + 63) / 64) (0 : Int64)).map Value.long) := by rw [List.map_replicate]; exact A77
      refine o_astore H77 (L' := #[.val (.ref a1), .val (.int p1), .val (.int (0 : Int32)), .val (.ref r10), .val (.int (3 : Int32)), .val (.ref b66), .val (.int (1 : Int32)), .val (.ref r10), .val (.ref b77), .unset]) rfl rfl d4_137 rfl ?_
      refine o_iconst H77 (0 : Int32) rfl d4_139 rfl ?_
      refine o_istore H77 (L' := #[.val (.ref a1), .val (.int p1), .val (.int (0 : Int32)), .val (.ref r10), .val (.int (3 : Int32)), .val (.ref b66), .val (.int (1 : Int32)), .val (.ref r10), .val (.ref b77), .val (.int (0 : Int32))]) rfl d4_140 rfl ?_
      refine rmG_1024 l Z a0 hw a1 r10 b66 r10 b77 p1 (0 : Int32) (3 : Int32) (1 : Int32) nn (([] : List Int64) ++ List.replicate (N - ([] : List Int64).length) (0 : Int64)) _ h77 n0 4 1044 f80 (by rw [hrl]; exact hN) (own_fz _ hf) p e s m below meth c T77 H77 ?_ (([] : List Int64) ++ List.replicate (N - ([] : List Int64).length) (0 : Int64)).length 0 (0 : Int32) (by omega) rfl
      refine o_aload H77 rfl rfl d4_183 rfl ?_
      refine o_iload H77 rfl d4_185 rfl ?_
      refine o_aload H77 rfl rfl d4_187 rfl ?_
      refine o_aastore H77 1 f82 f83 (Ins.self X77) (by decide) (Nat.le_of_ble_eq_true rfl) z66 d4_189 rfl ?_
      intro T84 h84 H84 W84 A84
      have f85 := f78.wr W84
      have f86 := f79.other W84 (Or.inl ne66_a1)
      have f87 := f80.other W84 ne66_r10
      have f88 := f81.wr W84
      have f89 := AZ77.other W84 (Ne.symm ne77_b66)
      have f90 := X77.wr W84
      have f91 := f83.wr W84
      have AR84 : oA (.array .long) Z h84 b66 [(.ref r10), (.ref b77), .null] := A84
      refine o_iinc H84 (1 : Int32) (2 : Int32) rfl (by decide) rfl (L' := #[.val (.ref a1), .val (.int p1), .val (.int (0 : Int32)), .val (.ref r10), .val (.int (3 : Int32)), .val (.ref b66), .val (.int (2 : Int32)), .val (.ref r10), .val (.ref b77), .val (.int nn)]) rfl d4_190 rfl ?_
      refine o_goto H84 d4_193 (pt := 108) (by decide) (by decide) ?_
      refine o_iload H84 rfl d4_108 rfl ?_
      refine o_iload H84 rfl d4_110 rfl ?_
      refine o_icmp_f H84 d4_112 (by decide) rfl ?_
      refine o_aload H84 rfl rfl d4_115 rfl ?_
      refine o_iload H84 rfl d4_117 rfl ?_
      refine o_iconst H84 (1 : Int32) rfl d4_119 rfl ?_
      refine o_isub H84 d4_120 rfl ?_
      refine o_aaload H84 1 (.ref b77) AR84 rfl (by decide) rfl d4_121 rfl ?_
      refine o_astore H84 (L' := #[.val (.ref a1), .val (.int p1), .val (.int (0 : Int32)), .val (.ref r10), .val (.int (3 : Int32)), .val (.ref b66), .val (.int (2 : Int32)), .val (.ref b77), .val (.ref b77), .val (.int nn)]) rfl rfl d4_122 rfl ?_
      refine o_aload H84 rfl rfl d4_124 rfl ?_
      refine o_arraylength H84 zz1 f89 (own_ln hZ1 (by rw [List.length_map, List.length_replicate])) d4_126 rfl ?_
      refine o_bipush H84 (64 : Int32) rfl d4_127 rfl ?_
      refine o_iadd H84 d4_129 rfl ?_
      refine o_iconst H84 (1 : Int32) rfl d4_130 rfl ?_
      refine o_isub H84 d4_131 rfl ?_
      refine o_bipush H84 (64 : Int32) rfl d4_132 rfl ?_
      refine o_idiv H84 (by decide) d4_134 rfl ?_
      obtain ⟨zz2, e_zz2⟩ : ∃ z : Int32, z = (((zz1 + (64 : Int32)) - (1 : Int32)) / (64 : Int32)) := ⟨_, rfl⟩
      rw [← e_zz2]
      have hZ2 := own_up hZ1 (by omega)
      rw [← e_zz2] at hZ2
      clear e_zz2
      refine o_newarrE (aty := .long) H84 1 (((N + 63) / 64 + 63) / 64) (w23 hw) hZ2 (by omega) (by decide) d4_135 rfl (by decide) (by decide) (ad := "[J") (by decide) ?_
      intro T92 h92 b92 g92 H92 E92 A92 X92
      have ne92_a1 : a1 ≠ b92 := by rw [g92]; exact Nat.ne_of_lt (f85).lt
      have ne92_r10 : r10 ≠ b92 := by rw [g92]; exact Nat.ne_of_lt (f87).lt
      have ne92_b66 : b66 ≠ b92 := by rw [g92]; exact Nat.ne_of_lt (AR84).lt
      have ne92_b77 : b77 ≠ b92 := by rw [g92]; exact Nat.ne_of_lt (f89).lt
      have z92 : n0 ≤ b92 := by rw [g92]; exact H84.le
      have f93 := f85.ext E92
      have f94 := f86.ext E92
      have f95 := f87.ext E92
      have f96 := f88.ext E92
      have f97 := AR84.ext E92
      have f98 := f89.ext E92
      have f99 := f90.ext E92
      have f100 := f91.ext E92
      have AZ92 : oA .long Z h92 b92 ((List.replicate (((N + 63) / 64 + 63) / 64) (0 : Int64)).map Value.long) := by rw [List.map_replicate]; exact A92
      refine o_astore H92 (L' := #[.val (.ref a1), .val (.int p1), .val (.int (0 : Int32)), .val (.ref r10), .val (.int (3 : Int32)), .val (.ref b66), .val (.int (2 : Int32)), .val (.ref b77), .val (.ref b92), .val (.int nn)]) rfl rfl d4_137 rfl ?_
      refine o_iconst H92 (0 : Int32) rfl d4_139 rfl ?_
      refine o_istore H92 (L' := #[.val (.ref a1), .val (.int p1), .val (.int (0 : Int32)), .val (.ref r10), .val (.int (3 : Int32)), .val (.ref b66), .val (.int (2 : Int32)), .val (.ref b77), .val (.ref b92), .val (.int (0 : Int32))]) rfl d4_140 rfl ?_
      refine rmG_1024 l Z a0 hw a1 r10 b66 b77 b92 p1 (0 : Int32) (3 : Int32) (2 : Int32) zz1 (List.replicate ((N + 63) / 64) (0 : Int64)) _ h92 n0 5 1045 f98 (by rw [List.length_replicate]; exact hZ1) (own_fr _) p e s m below meth c T92 H92 ?_ (List.replicate ((N + 63) / 64) (0 : Int64)).length 0 (0 : Int32) (by omega) rfl
      refine o_aload H92 rfl rfl d4_183 rfl ?_
      refine o_iload H92 rfl d4_185 rfl ?_
      refine o_aload H92 rfl rfl d4_187 rfl ?_
      refine o_aastore H92 2 f97 f100 (Ins.self X92) (by decide) (Nat.le_of_ble_eq_true rfl) z66 d4_189 rfl ?_
      intro T101 h101 H101 W101 A101
      have f102 := f93.wr W101
      have f103 := f94.other W101 (Or.inl ne66_a1)
      have f104 := f95.other W101 ne66_r10
      have f105 := f96.wr W101
      have f106 := f98.other W101 (Ne.symm ne77_b66)
      have f107 := f99.wr W101
      have f108 := AZ92.other W101 (Ne.symm ne92_b66)
      have f109 := X92.wr W101
      have f110 := f100.wr W101
      have AR101 : oA (.array .long) Z h101 b66 [(.ref r10), (.ref b77), (.ref b92)] := A101
      refine o_iinc H101 (1 : Int32) (3 : Int32) rfl (by decide) rfl (L' := #[.val (.ref a1), .val (.int p1), .val (.int (0 : Int32)), .val (.ref r10), .val (.int (3 : Int32)), .val (.ref b66), .val (.int (3 : Int32)), .val (.ref b77), .val (.ref b92), .val (.int zz1)]) rfl d4_190 rfl ?_
      refine o_goto H101 d4_193 (pt := 108) (by decide) (by decide) ?_
      refine o_iload H101 rfl d4_108 rfl ?_
      refine o_iload H101 rfl d4_110 rfl ?_
      refine o_icmp_t H101 d4_112 (by decide) (pt := 196) (by decide) (by decide) ?_
      refine o_aloadN H101 rfl rfl d4_196 rfl ?_
      refine o_aload H101 rfl rfl d4_197 rfl ?_
      refine o_putF H101 (host := "") (Or.inl (w12 hw)) f103 f102 (Or.inl (w13 hw)) (w2 hw) (ty := (.array (.array .long))) (by decide) rfl rfl g_a1 d4_199 rfl ?_
      intro T111 h111 H111 W111
      have f112 := f102.wr W111
      have f113 := f103.same W111
      have f114 := f104.other W111 (Ne.symm na10)
      have f115 := f105.wr W111
      have f116 := AR101.other W111 (Ne.symm ne66_a1)
      have f117 := f106.other W111 (Ne.symm ne77_a1)
      have f118 := f107.wr W111
      have f119 := f108.other W111 (Ne.symm ne92_a1)
      have f120 := f109.wr W111
      have f121 := f110.wr W111
      have hne2 : (([] : List Int64) ++ List.replicate (N - ([] : List Int64).length) (0 : Int64)) ≠ [] := by intro q; rw [q] at hrl; simp at hrl; omega
      have AU : oA .long Z h111 b77 ((List.replicate (((([] : List Int64) ++ List.replicate (N - ([] : List Int64).length) (0 : Int64)).length + 63) / 64) (0 : Int64)).map Value.long) := by rw [hrl]; exact f117
      exact o_return H111 rfl d4_202 (by decide) (by decide) ⟨rfl, (([] : List Int64) ++ List.replicate (N - ([] : List Int64).length) (0 : Int64)), ⟨b66, _, f112, g_a1, f113, f116, Or.inr ⟨r10, _, rfl, hne2, f114, z10, (Ne.symm na10), ne66_r10, Or.inr ⟨b77, _, rfl, (Ne.symm ne77_r10), AU⟩⟩⟩, by rw [hrl]; exact hNB, by rw [hrl]; exact hiN, _, rfl⟩
  · have hL := o_len1 AL
    have hn := own_nl (n := ws.length) (by omega)
    refine o_aloadN H rfl rfl d4_0 rfl ?_
    refine o_getF H (host := "") (Or.inl (w12 hw)) FL d4_1 rfl ?_
    intro T122 H123
    refine o_arraylength H123 ((Value.ref w0 :: rest).length.toInt32) AL rfl d4_4 rfl ?_
    refine o_if_t H123 d4_5 (XT.i0_ne_t (by rw [n_eq]; have := (n_lt _ _).mp hL.1; omega)) (pt := 12) (by decide) (by decide) ?_
    refine o_aloadN H123 rfl rfl d4_12 rfl ?_
    refine o_getF H123 (host := "") (Or.inl (w12 hw)) FL d4_13 rfl ?_
    intro T124 H125
    refine o_iconst H125 (0 : Int32) rfl d4_16 rfl ?_
    refine o_aaload H125 0 (.ref w0) AL rfl (by decide) rfl d4_17 rfl ?_
    refine o_arraylength H125 (ws.length.toInt32) A0 (by rw [List.length_map]) d4_18 rfl ?_
    refine o_bipush H125 (64 : Int32) rfl d4_19 rfl ?_
    refine o_imul H125 d4_21 rfl ?_
    refine o_istoreN H125 (L' := #[.val (.ref a1), .val (.int p1), .val (.int ((ws.length.toInt32) * (64 : Int32))), .unset, .unset, .unset, .unset, .unset, .unset, .unset]) rfl d4_22 rfl ?_
    refine o_aloadN H125 rfl rfl d4_23 rfl ?_
    refine o_getF H125 (host := "") (Or.inl (w12 hw)) FL d4_24 rfl ?_
    intro T126 H127
    refine o_arraylength H127 ((Value.ref w0 :: rest).length.toInt32) AL rfl d4_27 rfl ?_
    refine o_if_t H127 d4_28 (XT.i0_ne_t (by rw [n_eq]; have := (n_lt _ _).mp hL.1; omega)) (pt := 37) (by decide) (by decide) ?_
    refine o_aloadN H127 rfl rfl d4_37 rfl ?_
    refine o_getF H127 (host := "") (Or.inl (w12 hw)) FL d4_38 rfl ?_
    intro T128 H129
    refine o_iconst H129 (0 : Int32) rfl d4_41 rfl ?_
    refine o_aaload H129 0 (.ref w0) AL rfl (by decide) rfl d4_42 rfl ?_
    refine o_iloadN H129 rfl d4_43 rfl ?_
    refine o_iconst H129 (2 : Int32) rfl d4_44 rfl ?_
    refine o_iloadN H129 rfl d4_45 rfl ?_
    refine o_imul H129 d4_46 rfl ?_
    refine o_static H129 [(.int p1), (.int ((2 : Int32) * ((ws.length.toInt32) * (64 : Int32))))] [(.ref w0)] (rm5 l Z a0 hw p1 ((2 : Int32) * ((ws.length.toInt32) * (64 : Int32))) h0 n0 H129.le) (w24 hw) (w25 hw) (w26 hw) (w27 hw) (by decide) (lenOf pd5 rfl) rfl rfl (by decide) (Nat.le_of_ble_eq_true rfl) (by decide) (by decide) d4_47 rfl ?_
    intro T130 v130 h130 H130 q130
    obtain ⟨rfl, rfl⟩ := q130
    show oG p e below s n0 _ _ _ (T130.setTop (mkF m 50 #[.val (.ref a1), .val (.int p1), .val (.int ((ws.length.toInt32) * (64 : Int32))), .unset, .unset, .unset, .unset, .unset, .unset, .unset] [(.int (own_mx p1 ((2 : Int32) * ((ws.length.toInt32) * (64 : Int32))))), (.ref w0)]))
    refine o_bipush H130 (64 : Int32) rfl d4_50 rfl ?_
    refine o_iadd H130 d4_52 rfl ?_
    refine o_iconst H130 (1 : Int32) rfl d4_53 rfl ?_
    refine o_isub H130 d4_54 rfl ?_
    refine o_bipush H130 (64 : Int32) rfl d4_55 rfl ?_
    refine o_idiv H130 (by decide) d4_57 rfl ?_
    obtain ⟨nn, e_nn⟩ : ∃ z : Int32, z = ((((own_mx p1 ((2 : Int32) * ((ws.length.toInt32) * (64 : Int32)))) + (64 : Int32)) - (1 : Int32)) / (64 : Int32)) := ⟨_, rfl⟩
    rw [← e_nn]
    obtain ⟨N, hN, hlt, hiN, h1N, h1024, h130⟩ := own_gN (p := p1) (old := (ws.length.toInt32 * 64)) (i := i) (n := ws.length) hp (own_m64 hn (by omega)) (by omega) (by omega) (by omega)
    rw [← e_nn] at hN
    have hNB : N ≤ 1024 := by omega
    clear e_nn
    refine o_static H130 [(.ref w0), (.int nn)] [] (rm6_1024 l Z a0 hw w0 nn ws N h0 n0 H130.le A0 hN hlt hNB) (w28 hw) (w29 hw) (w30 hw) (w31 hw) (by decide) (lenOf pd6 rfl) rfl rfl (by decide) (Nat.le_of_ble_eq_true rfl) (by decide) (by decide) d4_58 rfl ?_
    intro T131 v131 h131 H131 q131
    obtain ⟨r131, rfl, K131, A131, X131, z131, y131⟩ := q131
    have na131 : a1 ≠ r131 := Nat.ne_of_lt (Nat.lt_of_lt_of_le (E_a1).lt y131)
    have f132 := E_a1.keep K131
    have f133 := FL.keep K131 nin0
    have hrl : (ws ++ List.replicate (N - ws.length) (0 : Int64)).length = N := by rw [List.length_append, List.length_replicate]; omega
    show oG p e below s n0 _ _ _ (T131.setTop (mkF m 61 #[.val (.ref a1), .val (.int p1), .val (.int ((ws.length.toInt32) * (64 : Int32))), .unset, .unset, .unset, .unset, .unset, .unset, .unset] [(.ref r131)]))
    refine o_astoreN H131 (L' := #[.val (.ref a1), .val (.int p1), .val (.int ((ws.length.toInt32) * (64 : Int32))), .val (.ref r131), .unset, .unset, .unset, .unset, .unset, .unset]) rfl rfl d4_61 rfl ?_
    refine o_iconst H131 (1 : Int32) rfl d4_62 rfl ?_
    refine o_istore H131 (L' := #[.val (.ref a1), .val (.int p1), .val (.int ((ws.length.toInt32) * (64 : Int32))), .val (.ref r131), .val (.int (1 : Int32)), .unset, .unset, .unset, .unset, .unset]) rfl d4_63 rfl ?_
    refine o_aloadN H131 rfl rfl d4_65 rfl ?_
    refine o_arraylength H131 nn A131 (own_ln hN (by rw [List.length_map]; exact hrl)) d4_66 rfl ?_
    refine o_istore H131 (L' := #[.val (.ref a1), .val (.int p1), .val (.int ((ws.length.toInt32) * (64 : Int32))), .val (.ref r131), .val (.int (1 : Int32)), .val (.int nn), .unset, .unset, .unset, .unset]) rfl d4_67 rfl ?_
    have cN : N = 1 ∨ (2 ≤ N ∧ N ≤ 64) ∨ (65 ≤ N ∧ N ≤ 1024) := by omega
    rcases cN with cN | cN | cN
    · skip
      refine o_iload H131 rfl d4_69 rfl ?_
      refine o_iconst H131 (1 : Int32) rfl d4_71 rfl ?_
      refine o_icmp_t H131 d4_72 (XT.ii_le_t (own_lt1 hN (by omega))) (pt := 93) (by decide) (by decide) ?_
      refine o_iload H131 rfl d4_93 rfl ?_
      refine o_anewarr H131 3 1 (w10 hw) (w11 hw) (by decide) (by decide) (by decide) d4_95 rfl (by decide) (by decide) ?_
      intro T134 h134 b134 g134 H134 E134 A134 V134
      have ne134_a1 : a1 ≠ b134 := by rw [g134]; exact Nat.ne_of_lt (f132).lt
      have ne134_r131 : r131 ≠ b134 := by rw [g134]; exact Nat.ne_of_lt (A131).lt
      have z134 : n0 ≤ b134 := by rw [g134]; exact H131.le
      have f135 := f132.ext E134
      have f136 := f133.ext E134
      have f137 := A131.ext E134
      have f138 := X131.ext E134
      have AR134 : oA (.array .long) Z h134 b134 [.null] := A134
      refine o_astore H134 (L' := #[.val (.ref a1), .val (.int p1), .val (.int ((ws.length.toInt32) * (64 : Int32))), .val (.ref r131), .val (.int (1 : Int32)), .val (.ref b134), .unset, .unset, .unset, .unset]) rfl rfl d4_98 rfl ?_
      refine o_aload H134 rfl rfl d4_100 rfl ?_
      refine o_iconst H134 (0 : Int32) rfl d4_102 rfl ?_
      refine o_aloadN H134 rfl rfl d4_103 rfl ?_
      refine o_aastore H134 0 AR134 V134 (Ins.self f138) (by decide) (Nat.le_of_ble_eq_true rfl) z134 d4_104 rfl ?_
      intro T139 h139 H139 W139 A139
      have f140 := f135.wr W139
      have f141 := f136.other W139 (Or.inl ne134_a1)
      have f142 := f137.other W139 ne134_r131
      have f143 := f138.wr W139
      have f144 := V134.wr W139
      have AR139 : oA (.array .long) Z h139 b134 [(.ref r131)] := A139
      refine o_iconst H139 (1 : Int32) rfl d4_105 rfl ?_
      refine o_istore H139 (L' := #[.val (.ref a1), .val (.int p1), .val (.int ((ws.length.toInt32) * (64 : Int32))), .val (.ref r131), .val (.int (1 : Int32)), .val (.ref b134), .val (.int (1 : Int32)), .unset, .unset, .unset]) rfl d4_106 rfl ?_
      refine o_iload H139 rfl d4_108 rfl ?_
      refine o_iload H139 rfl d4_110 rfl ?_
      refine o_icmp_t H139 d4_112 (by decide) (pt := 196) (by decide) (by decide) ?_
      refine o_aloadN H139 rfl rfl d4_196 rfl ?_
      refine o_aload H139 rfl rfl d4_197 rfl ?_
      refine o_putF H139 (host := "") (Or.inl (w12 hw)) f141 f140 (Or.inl (w13 hw)) (w2 hw) (ty := (.array (.array .long))) (by decide) rfl rfl g_a1 d4_199 rfl ?_
      intro T145 h145 H145 W145
      have f146 := f140.wr W145
      have f147 := f141.same W145
      have f148 := f142.other W145 (Ne.symm na131)
      have f149 := f143.wr W145
      have f150 := AR139.other W145 (Ne.symm ne134_a1)
      have f151 := f144.wr W145
      have hne2 : (ws ++ List.replicate (N - ws.length) (0 : Int64)) ≠ [] := by intro q; rw [q] at hrl; simp at hrl; omega
      exact o_return H145 rfl d4_202 (by decide) (by decide) ⟨rfl, (ws ++ List.replicate (N - ws.length) (0 : Int64)), ⟨b134, _, f146, g_a1, f147, f150, Or.inr ⟨r131, _, rfl, hne2, f148, z131, (Ne.symm na131), ne134_r131, Or.inl ⟨rfl, by rw [hrl]; exact cN⟩⟩⟩, by rw [hrl]; exact hNB, by rw [hrl]; exact hiN, _, rfl⟩
    · skip
      refine o_iload H131 rfl d4_69 rfl ?_
      refine o_iconst H131 (1 : Int32) rfl d4_71 rfl ?_
      refine o_icmp_f H131 d4_72 (XT.ii_le_f (own_gt1 hN (by omega))) rfl ?_
      refine o_iinc H131 (1 : Int32) (2 : Int32) rfl (by decide) rfl (L' := #[.val (.ref a1), .val (.int p1), .val (.int ((ws.length.toInt32) * (64 : Int32))), .val (.ref r131), .val (.int (2 : Int32)), .val (.int nn), .unset, .unset, .unset, .unset]) rfl d4_75 rfl ?_
      refine o_iload H131 rfl d4_78 rfl ?_
      refine o_bipush H131 (64 : Int32) rfl d4_80 rfl ?_
      refine o_iadd H131 d4_82 rfl ?_
      refine o_iconst H131 (1 : Int32) rfl d4_83 rfl ?_
      refine o_isub H131 d4_84 rfl ?_
      refine o_bipush H131 (64 : Int32) rfl d4_85 rfl ?_
      refine o_idiv H131 (by decide) d4_87 rfl ?_
      refine o_istore H131 (L' := #[.val (.ref a1), .val (.int p1), .val (.int ((ws.length.toInt32) * (64 : Int32))), .val (.ref r131), .val (.int (2 : Int32)), .val (.int (((nn + (64 : Int32)) - (1 : Int32)) / (64 : Int32))), .unset, .unset, .unset, .unset]) rfl d4_88 rfl ?_
      obtain ⟨n1, e_n1⟩ : ∃ z : Int32, z = (((nn + (64 : Int32)) - (1 : Int32)) / (64 : Int32)) := ⟨_, rfl⟩
      rw [← e_n1]
      have hN1 := own_up hN (by omega)
      rw [← e_n1] at hN1
      clear e_n1
      refine o_goto H131 d4_90 (pt := 69) (by decide) (by decide) ?_
      refine o_iload H131 rfl d4_69 rfl ?_
      refine o_iconst H131 (1 : Int32) rfl d4_71 rfl ?_
      refine o_icmp_t H131 d4_72 (XT.ii_le_t (own_lt1 hN1 (by omega))) (pt := 93) (by decide) (by decide) ?_
      refine o_iload H131 rfl d4_93 rfl ?_
      refine o_anewarr H131 3 2 (w10 hw) (w11 hw) (by decide) (by decide) (by decide) d4_95 rfl (by decide) (by decide) ?_
      intro T152 h152 b152 g152 H152 E152 A152 V152
      have ne152_a1 : a1 ≠ b152 := by rw [g152]; exact Nat.ne_of_lt (f132).lt
      have ne152_r131 : r131 ≠ b152 := by rw [g152]; exact Nat.ne_of_lt (A131).lt
      have z152 : n0 ≤ b152 := by rw [g152]; exact H131.le
      have f153 := f132.ext E152
      have f154 := f133.ext E152
      have f155 := A131.ext E152
      have f156 := X131.ext E152
      have AR152 : oA (.array .long) Z h152 b152 [.null, .null] := A152
      refine o_astore H152 (L' := #[.val (.ref a1), .val (.int p1), .val (.int ((ws.length.toInt32) * (64 : Int32))), .val (.ref r131), .val (.int (2 : Int32)), .val (.ref b152), .unset, .unset, .unset, .unset]) rfl rfl d4_98 rfl ?_
      refine o_aload H152 rfl rfl d4_100 rfl ?_
      refine o_iconst H152 (0 : Int32) rfl d4_102 rfl ?_
      refine o_aloadN H152 rfl rfl d4_103 rfl ?_
      refine o_aastore H152 0 AR152 V152 (Ins.self f156) (by decide) (Nat.le_of_ble_eq_true rfl) z152 d4_104 rfl ?_
      intro T157 h157 H157 W157 A157
      have f158 := f153.wr W157
      have f159 := f154.other W157 (Or.inl ne152_a1)
      have f160 := f155.other W157 ne152_r131
      have f161 := f156.wr W157
      have f162 := V152.wr W157
      have AR157 : oA (.array .long) Z h157 b152 [(.ref r131), .null] := A157
      refine o_iconst H157 (1 : Int32) rfl d4_105 rfl ?_
      refine o_istore H157 (L' := #[.val (.ref a1), .val (.int p1), .val (.int ((ws.length.toInt32) * (64 : Int32))), .val (.ref r131), .val (.int (2 : Int32)), .val (.ref b152), .val (.int (1 : Int32)), .unset, .unset, .unset]) rfl d4_106 rfl ?_
      refine o_iload H157 rfl d4_108 rfl ?_
      refine o_iload H157 rfl d4_110 rfl ?_
      refine o_icmp_f H157 d4_112 (by decide) rfl ?_
      refine o_aload H157 rfl rfl d4_115 rfl ?_
      refine o_iload H157 rfl d4_117 rfl ?_
      refine o_iconst H157 (1 : Int32) rfl d4_119 rfl ?_
      refine o_isub H157 d4_120 rfl ?_
      refine o_aaload H157 0 (.ref r131) AR157 rfl (by decide) rfl d4_121 rfl ?_
      refine o_astore H157 (L' := #[.val (.ref a1), .val (.int p1), .val (.int ((ws.length.toInt32) * (64 : Int32))), .val (.ref r131), .val (.int (2 : Int32)), .val (.ref b152), .val (.int (1 : Int32)), .val (.ref r131), .unset, .unset]) rfl rfl d4_122 rfl ?_
      refine o_aload H157 rfl rfl d4_124 rfl ?_
      refine o_arraylength H157 nn f160 (own_ln hN (by rw [List.length_map]; exact hrl)) d4_126 rfl ?_
      refine o_bipush H157 (64 : Int32) rfl d4_127 rfl ?_
      refine o_iadd H157 d4_129 rfl ?_
      refine o_iconst H157 (1 : Int32) rfl d4_130 rfl ?_
      refine o_isub H157 d4_131 rfl ?_
      refine o_bipush H157 (64 : Int32) rfl d4_132 rfl ?_
      refine o_idiv H157 (by decide) d4_134 rfl ?_
      obtain ⟨zz1, e_zz1⟩ : ∃ z : Int32, z = (((nn + (64 : Int32)) - (1 : Int32)) / (64 : Int32)) := ⟨_, rfl⟩
      rw [← e_zz1]
      have hZ1 := own_up hN (by omega)
      rw [← e_zz1] at hZ1
      clear e_zz1
      refine o_newarrE (aty := .long) H157 17 ((N + 63) / 64) (w23 hw) hZ1 (by omega) (by decide) d4_135 rfl (by decide) (by decide) (ad := "[J") (by decide) ?_
      intro T163 h163 b163 g163 H163 E163 A163 X163
      have ne163_a1 : a1 ≠ b163 := by rw [g163]; exact Nat.ne_of_lt (f158).lt
      have ne163_r131 : r131 ≠ b163 := by rw [g163]; exact Nat.ne_of_lt (f160).lt
      have ne163_b152 : b152 ≠ b163 := by rw [g163]; exact Nat.ne_of_lt (AR157).lt
      have z163 : n0 ≤ b163 := by rw [g163]; exact H157.le
      have f164 := f158.ext E163
      have f165 := f159.ext E163
      have f166 := f160.ext E163
      have f167 := f161.ext E163
      have f168 := AR157.ext E163
      have f169 := f162.ext E163
      have AZ163 : oA .long Z h163 b163 ((List.replicate ((N + 63) / 64) (0 : Int64)).map Value.long) := by rw [List.map_replicate]; exact A163
      refine o_astore H163 (L' := #[.val (.ref a1), .val (.int p1), .val (.int ((ws.length.toInt32) * (64 : Int32))), .val (.ref r131), .val (.int (2 : Int32)), .val (.ref b152), .val (.int (1 : Int32)), .val (.ref r131), .val (.ref b163), .unset]) rfl rfl d4_137 rfl ?_
      refine o_iconst H163 (0 : Int32) rfl d4_139 rfl ?_
      refine o_istore H163 (L' := #[.val (.ref a1), .val (.int p1), .val (.int ((ws.length.toInt32) * (64 : Int32))), .val (.ref r131), .val (.int (2 : Int32)), .val (.ref b152), .val (.int (1 : Int32)), .val (.ref r131), .val (.ref b163), .val (.int (0 : Int32))]) rfl d4_140 rfl ?_
      refine rmG_1024 l Z a0 hw a1 r131 b152 r131 b163 p1 ((ws.length.toInt32) * (64 : Int32)) (2 : Int32) (1 : Int32) nn (ws ++ List.replicate (N - ws.length) (0 : Int64)) _ h163 n0 3 1044 f166 (by rw [hrl]; exact hN) (own_fz _ hf) p e s m below meth c T163 H163 ?_ (ws ++ List.replicate (N - ws.length) (0 : Int64)).length 0 (0 : Int32) (by omega) rfl
      refine o_aload H163 rfl rfl d4_183 rfl ?_
      refine o_iload H163 rfl d4_185 rfl ?_
      refine o_aload H163 rfl rfl d4_187 rfl ?_
      refine o_aastore H163 1 f168 f169 (Ins.self X163) (by decide) (Nat.le_of_ble_eq_true rfl) z152 d4_189 rfl ?_
      intro T170 h170 H170 W170 A170
      have f171 := f164.wr W170
      have f172 := f165.other W170 (Or.inl ne152_a1)
      have f173 := f166.other W170 ne152_r131
      have f174 := f167.wr W170
      have f175 := AZ163.other W170 (Ne.symm ne163_b152)
      have f176 := X163.wr W170
      have f177 := f169.wr W170
      have AR170 : oA (.array .long) Z h170 b152 [(.ref r131), (.ref b163)] := A170
      refine o_iinc H170 (1 : Int32) (2 : Int32) rfl (by decide) rfl (L' := #[.val (.ref a1), .val (.int p1), .val (.int ((ws.length.toInt32) * (64 : Int32))), .val (.ref r131), .val (.int (2 : Int32)), .val (.ref b152), .val (.int (2 : Int32)), .val (.ref r131), .val (.ref b163), .val (.int nn)]) rfl d4_190 rfl ?_
      refine o_goto H170 d4_193 (pt := 108) (by decide) (by decide) ?_
      refine o_iload H170 rfl d4_108 rfl ?_
      refine o_iload H170 rfl d4_110 rfl ?_
      refine o_icmp_t H170 d4_112 (by decide) (pt := 196) (by decide) (by decide) ?_
      refine o_aloadN H170 rfl rfl d4_196 rfl ?_
      refine o_aload H170 rfl rfl d4_197 rfl ?_
      refine o_putF H170 (host := "") (Or.inl (w12 hw)) f172 f171 (Or.inl (w13 hw)) (w2 hw) (ty := (.array (.array .long))) (by decide) rfl rfl g_a1 d4_199 rfl ?_
      intro T178 h178 H178 W178
      have f179 := f171.wr W178
      have f180 := f172.same W178
      have f181 := f173.other W178 (Ne.symm na131)
      have f182 := f174.wr W178
      have f183 := AR170.other W178 (Ne.symm ne152_a1)
      have f184 := f175.other W178 (Ne.symm ne163_a1)
      have f185 := f176.wr W178
      have f186 := f177.wr W178
      have hne2 : (ws ++ List.replicate (N - ws.length) (0 : Int64)) ≠ [] := by intro q; rw [q] at hrl; simp at hrl; omega
      have AU : oA .long Z h178 b163 ((List.replicate (((ws ++ List.replicate (N - ws.length) (0 : Int64)).length + 63) / 64) (0 : Int64)).map Value.long) := by rw [hrl]; exact f184
      exact o_return H178 rfl d4_202 (by decide) (by decide) ⟨rfl, (ws ++ List.replicate (N - ws.length) (0 : Int64)), ⟨b152, _, f179, g_a1, f180, f183, Or.inr ⟨r131, _, rfl, hne2, f181, z131, (Ne.symm na131), ne152_r131, Or.inr ⟨b163, _, rfl, (Ne.symm ne163_r131), AU⟩⟩⟩, by rw [hrl]; exact hNB, by rw [hrl]; exact hiN, _, rfl⟩
    · skip
      refine o_iload H131 rfl d4_69 rfl ?_
      refine o_iconst H131 (1 : Int32) rfl d4_71 rfl ?_
      refine o_icmp_f H131 d4_72 (XT.ii_le_f (own_gt1 hN (by omega))) rfl ?_
      refine o_iinc H131 (1 : Int32) (2 : Int32) rfl (by decide) rfl (L' := #[.val (.ref a1), .val (.int p1), .val (.int ((ws.length.toInt32) * (64 : Int32))), .val (.ref r131), .val (.int (2 : Int32)), .val (.int nn), .unset, .unset, .unset, .unset]) rfl d4_75 rfl ?_
      refine o_iload H131 rfl d4_78 rfl ?_
      refine o_bipush H131 (64 : Int32) rfl d4_80 rfl ?_
      refine o_iadd H131 d4_82 rfl ?_
      refine o_iconst H131 (1 : Int32) rfl d4_83 rfl ?_
      refine o_isub H131 d4_84 rfl ?_
      refine o_bipush H131 (64 : Int32) rfl d4_85 rfl ?_
      refine o_idiv H131 (by decide) d4_87 rfl ?_
      refine o_istore H131 (L' := #[.val (.ref a1), .val (.int p1), .val (.int ((ws.length.toInt32) * (64 : Int32))), .val (.ref r131), .val (.int (2 : Int32)), .val (.int (((nn + (64 : Int32)) - (1 : Int32)) / (64 : Int32))), .unset, .unset, .unset, .unset]) rfl d4_88 rfl ?_
      obtain ⟨n1, e_n1⟩ : ∃ z : Int32, z = (((nn + (64 : Int32)) - (1 : Int32)) / (64 : Int32)) := ⟨_, rfl⟩
      rw [← e_n1]
      have hN1 := own_up hN (by omega)
      rw [← e_n1] at hN1
      clear e_n1
      refine o_goto H131 d4_90 (pt := 69) (by decide) (by decide) ?_
      refine o_iload H131 rfl d4_69 rfl ?_
      refine o_iconst H131 (1 : Int32) rfl d4_71 rfl ?_
      refine o_icmp_f H131 d4_72 (XT.ii_le_f (own_gt1 hN1 (by omega))) rfl ?_
      refine o_iinc H131 (1 : Int32) (3 : Int32) rfl (by decide) rfl (L' := #[.val (.ref a1), .val (.int p1), .val (.int ((ws.length.toInt32) * (64 : Int32))), .val (.ref r131), .val (.int (3 : Int32)), .val (.int n1), .unset, .unset, .unset, .unset]) rfl d4_75 rfl ?_
      refine o_iload H131 rfl d4_78 rfl ?_
      refine o_bipush H131 (64 : Int32) rfl d4_80 rfl ?_
      refine o_iadd H131 d4_82 rfl ?_
      refine o_iconst H131 (1 : Int32) rfl d4_83 rfl ?_
      refine o_isub H131 d4_84 rfl ?_
      refine o_bipush H131 (64 : Int32) rfl d4_85 rfl ?_
      refine o_idiv H131 (by decide) d4_87 rfl ?_
      refine o_istore H131 (L' := #[.val (.ref a1), .val (.int p1), .val (.int ((ws.length.toInt32) * (64 : Int32))), .val (.ref r131), .val (.int (3 : Int32)), .val (.int (((n1 + (64 : Int32)) - (1 : Int32)) / (64 : Int32))), .unset, .unset, .unset, .unset]) rfl d4_88 rfl ?_
      obtain ⟨n2, e_n2⟩ : ∃ z : Int32, z = (((n1 + (64 : Int32)) - (1 : Int32)) / (64 : Int32)) := ⟨_, rfl⟩
      rw [← e_n2]
      have hN2 := own_up hN1 (by omega)
      rw [← e_n2] at hN2
      clear e_n2
      refine o_goto H131 d4_90 (pt := 69) (by decide) (by decide) ?_
      refine o_iload H131 rfl d4_69 rfl ?_
      refine o_iconst H131 (1 : Int32) rfl d4_71 rfl ?_
      refine o_icmp_t H131 d4_72 (XT.ii_le_t (own_lt1 hN2 (by omega))) (pt := 93) (by decide) (by decide) ?_
      refine o_iload H131 rfl d4_93 rfl ?_
      refine o_anewarr H131 3 3 (w10 hw) (w11 hw) (by decide) (by decide) (by decide) d4_95 rfl (by decide) (by decide) ?_
      intro T187 h187 b187 g187 H187 E187 A187 V187
      have ne187_a1 : a1 ≠ b187 := by rw [g187]; exact Nat.ne_of_lt (f132).lt
      have ne187_r131 : r131 ≠ b187 := by rw [g187]; exact Nat.ne_of_lt (A131).lt
      have z187 : n0 ≤ b187 := by rw [g187]; exact H131.le
      have f188 := f132.ext E187
      have f189 := f133.ext E187
      have f190 := A131.ext E187
      have f191 := X131.ext E187
      have AR187 : oA (.array .long) Z h187 b187 [.null, .null, .null] := A187
      refine o_astore H187 (L' := #[.val (.ref a1), .val (.int p1), .val (.int ((ws.length.toInt32) * (64 : Int32))), .val (.ref r131), .val (.int (3 : Int32)), .val (.ref b187), .unset, .unset, .unset, .unset]) rfl rfl d4_98 rfl ?_
      refine o_aload H187 rfl rfl d4_100 rfl ?_
      refine o_iconst H187 (0 : Int32) rfl d4_102 rfl ?_
      refine o_aloadN H187 rfl rfl d4_103 rfl ?_
      refine o_aastore H187 0 AR187 V187 (Ins.self f191) (by decide) (Nat.le_of_ble_eq_true rfl) z187 d4_104 rfl ?_
      intro T192 h192 H192 W192 A192
      have f193 := f188.wr W192
      have f194 := f189.other W192 (Or.inl ne187_a1)
      have f195 := f190.other W192 ne187_r131
      have f196 := f191.wr W192
      have f197 := V187.wr W192
      have AR192 : oA (.array .long) Z h192 b187 [(.ref r131), .null, .null] := A192
      refine o_iconst H192 (1 : Int32) rfl d4_105 rfl ?_
      refine o_istore H192 (L' := #[.val (.ref a1), .val (.int p1), .val (.int ((ws.length.toInt32) * (64 : Int32))), .val (.ref r131), .val (.int (3 : Int32)), .val (.ref b187), .val (.int (1 : Int32)), .unset, .unset, .unset]) rfl d4_106 rfl ?_
      refine o_iload H192 rfl d4_108 rfl ?_
      refine o_iload H192 rfl d4_110 rfl ?_
      refine o_icmp_f H192 d4_112 (by decide) rfl ?_
      refine o_aload H192 rfl rfl d4_115 rfl ?_
      refine o_iload H192 rfl d4_117 rfl ?_
      refine o_iconst H192 (1 : Int32) rfl d4_119 rfl ?_
      refine o_isub H192 d4_120 rfl ?_
      refine o_aaload H192 0 (.ref r131) AR192 rfl (by decide) rfl d4_121 rfl ?_
      refine o_astore H192 (L' := #[.val (.ref a1), .val (.int p1), .val (.int ((ws.length.toInt32) * (64 : Int32))), .val (.ref r131), .val (.int (3 : Int32)), .val (.ref b187), .val (.int (1 : Int32)), .val (.ref r131), .unset, .unset]) rfl rfl d4_122 rfl ?_
      refine o_aload H192 rfl rfl d4_124 rfl ?_
      refine o_arraylength H192 nn f195 (own_ln hN (by rw [List.length_map]; exact hrl)) d4_126 rfl ?_
      refine o_bipush H192 (64 : Int32) rfl d4_127 rfl ?_
      refine o_iadd H192 d4_129 rfl ?_
      refine o_iconst H192 (1 : Int32) rfl d4_130 rfl ?_
      refine o_isub H192 d4_131 rfl ?_
      refine o_bipush H192 (64 : Int32) rfl d4_132 rfl ?_
      refine o_idiv H192 (by decide) d4_134 rfl ?_
      obtain ⟨zz1, e_zz1⟩ : ∃ z : Int32, z = (((nn + (64 : Int32)) - (1 : Int32)) / (64 : Int32)) := ⟨_, rfl⟩
      rw [← e_zz1]
      have hZ1 := own_up hN (by omega)
      rw [← e_zz1] at hZ1
      clear e_zz1
      refine o_newarrE (aty := .long) H192 17 ((N + 63) / 64) (w23 hw) hZ1 (by omega) (by decide) d4_135 rfl (by decide) (by decide) (ad := "[J") (by decide) ?_
      intro T198 h198 b198 g198 H198 E198 A198 X198
      have ne198_a1 : a1 ≠ b198 := by rw [g198]; exact Nat.ne_of_lt (f193).lt
      have ne198_r131 : r131 ≠ b198 := by rw [g198]; exact Nat.ne_of_lt (f195).lt
      have ne198_b187 : b187 ≠ b198 := by rw [g198]; exact Nat.ne_of_lt (AR192).lt
      have z198 : n0 ≤ b198 := by rw [g198]; exact H192.le
      have f199 := f193.ext E198
      have f200 := f194.ext E198
      have f201 := f195.ext E198
      have f202 := f196.ext E198
      have f203 := AR192.ext E198
      have f204 := f197.ext E198
      have AZ198 : oA .long Z h198 b198 ((List.replicate ((N + 63) / 64) (0 : Int64)).map Value.long) := by rw [List.map_replicate]; exact A198
      refine o_astore H198 (L' := #[.val (.ref a1), .val (.int p1), .val (.int ((ws.length.toInt32) * (64 : Int32))), .val (.ref r131), .val (.int (3 : Int32)), .val (.ref b187), .val (.int (1 : Int32)), .val (.ref r131), .val (.ref b198), .unset]) rfl rfl d4_137 rfl ?_
      refine o_iconst H198 (0 : Int32) rfl d4_139 rfl ?_
      refine o_istore H198 (L' := #[.val (.ref a1), .val (.int p1), .val (.int ((ws.length.toInt32) * (64 : Int32))), .val (.ref r131), .val (.int (3 : Int32)), .val (.ref b187), .val (.int (1 : Int32)), .val (.ref r131), .val (.ref b198), .val (.int (0 : Int32))]) rfl d4_140 rfl ?_
      refine rmG_1024 l Z a0 hw a1 r131 b187 r131 b198 p1 ((ws.length.toInt32) * (64 : Int32)) (3 : Int32) (1 : Int32) nn (ws ++ List.replicate (N - ws.length) (0 : Int64)) _ h198 n0 3 1044 f201 (by rw [hrl]; exact hN) (own_fz _ hf) p e s m below meth c T198 H198 ?_ (ws ++ List.replicate (N - ws.length) (0 : Int64)).length 0 (0 : Int32) (by omega) rfl
      refine o_aload H198 rfl rfl d4_183 rfl ?_
      refine o_iload H198 rfl d4_185 rfl ?_
      refine o_aload H198 rfl rfl d4_187 rfl ?_
      refine o_aastore H198 1 f203 f204 (Ins.self X198) (by decide) (Nat.le_of_ble_eq_true rfl) z187 d4_189 rfl ?_
      intro T205 h205 H205 W205 A205
      have f206 := f199.wr W205
      have f207 := f200.other W205 (Or.inl ne187_a1)
      have f208 := f201.other W205 ne187_r131
      have f209 := f202.wr W205
      have f210 := AZ198.other W205 (Ne.symm ne198_b187)
      have f211 := X198.wr W205
      have f212 := f204.wr W205
      have AR205 : oA (.array .long) Z h205 b187 [(.ref r131), (.ref b198), .null] := A205
      refine o_iinc H205 (1 : Int32) (2 : Int32) rfl (by decide) rfl (L' := #[.val (.ref a1), .val (.int p1), .val (.int ((ws.length.toInt32) * (64 : Int32))), .val (.ref r131), .val (.int (3 : Int32)), .val (.ref b187), .val (.int (2 : Int32)), .val (.ref r131), .val (.ref b198), .val (.int nn)]) rfl d4_190 rfl ?_
      refine o_goto H205 d4_193 (pt := 108) (by decide) (by decide) ?_
      refine o_iload H205 rfl d4_108 rfl ?_
      refine o_iload H205 rfl d4_110 rfl ?_
      refine o_icmp_f H205 d4_112 (by decide) rfl ?_
      refine o_aload H205 rfl rfl d4_115 rfl ?_
      refine o_iload H205 rfl d4_117 rfl ?_
      refine o_iconst H205 (1 : Int32) rfl d4_119 rfl ?_
      refine o_isub H205 d4_120 rfl ?_
      refine o_aaload H205 1 (.ref b198) AR205 rfl (by decide) rfl d4_121 rfl ?_
      refine o_astore H205 (L' := #[.val (.ref a1), .val (.int p1), .val (.int ((ws.length.toInt32) * (64 : Int32))), .val (.ref r131), .val (.int (3 : Int32)), .val (.ref b187), .val (.int (2 : Int32)), .val (.ref b198), .val (.ref b198), .val (.int nn)]) rfl rfl d4_122 rfl ?_
      refine o_aload H205 rfl rfl d4_124 rfl ?_
      refine o_arraylength H205 zz1 f210 (own_ln hZ1 (by rw [List.length_map, List.length_replicate])) d4_126 rfl ?_
      refine o_bipush H205 (64 : Int32) rfl d4_127 rfl ?_
      refine o_iadd H205 d4_129 rfl ?_
      refine o_iconst H205 (1 : Int32) rfl d4_130 rfl ?_
      refine o_isub H205 d4_131 rfl ?_
      refine o_bipush H205 (64 : Int32) rfl d4_132 rfl ?_
      refine o_idiv H205 (by decide) d4_134 rfl ?_
      obtain ⟨zz2, e_zz2⟩ : ∃ z : Int32, z = (((zz1 + (64 : Int32)) - (1 : Int32)) / (64 : Int32)) := ⟨_, rfl⟩
      rw [← e_zz2]
      have hZ2 := own_up hZ1 (by omega)
      rw [← e_zz2] at hZ2
      clear e_zz2
      refine o_newarrE (aty := .long) H205 1 (((N + 63) / 64 + 63) / 64) (w23 hw) hZ2 (by omega) (by decide) d4_135 rfl (by decide) (by decide) (ad := "[J") (by decide) ?_
      intro T213 h213 b213 g213 H213 E213 A213 X213
      have ne213_a1 : a1 ≠ b213 := by rw [g213]; exact Nat.ne_of_lt (f206).lt
      have ne213_r131 : r131 ≠ b213 := by rw [g213]; exact Nat.ne_of_lt (f208).lt
      have ne213_b187 : b187 ≠ b213 := by rw [g213]; exact Nat.ne_of_lt (AR205).lt
      have ne213_b198 : b198 ≠ b213 := by rw [g213]; exact Nat.ne_of_lt (f210).lt
      have z213 : n0 ≤ b213 := by rw [g213]; exact H205.le
      have f214 := f206.ext E213
      have f215 := f207.ext E213
      have f216 := f208.ext E213
      have f217 := f209.ext E213
      have f218 := AR205.ext E213
      have f219 := f210.ext E213
      have f220 := f211.ext E213
      have f221 := f212.ext E213
      have AZ213 : oA .long Z h213 b213 ((List.replicate (((N + 63) / 64 + 63) / 64) (0 : Int64)).map Value.long) := by rw [List.map_replicate]; exact A213
      refine o_astore H213 (L' := #[.val (.ref a1), .val (.int p1), .val (.int ((ws.length.toInt32) * (64 : Int32))), .val (.ref r131), .val (.int (3 : Int32)), .val (.ref b187), .val (.int (2 : Int32)), .val (.ref b198), .val (.ref b213), .val (.int nn)]) rfl rfl d4_137 rfl ?_
      refine o_iconst H213 (0 : Int32) rfl d4_139 rfl ?_
      refine o_istore H213 (L' := #[.val (.ref a1), .val (.int p1), .val (.int ((ws.length.toInt32) * (64 : Int32))), .val (.ref r131), .val (.int (3 : Int32)), .val (.ref b187), .val (.int (2 : Int32)), .val (.ref b198), .val (.ref b213), .val (.int (0 : Int32))]) rfl d4_140 rfl ?_
      refine rmG_1024 l Z a0 hw a1 r131 b187 b198 b213 p1 ((ws.length.toInt32) * (64 : Int32)) (3 : Int32) (2 : Int32) zz1 (List.replicate ((N + 63) / 64) (0 : Int64)) _ h213 n0 4 1045 f219 (by rw [List.length_replicate]; exact hZ1) (own_fr _) p e s m below meth c T213 H213 ?_ (List.replicate ((N + 63) / 64) (0 : Int64)).length 0 (0 : Int32) (by omega) rfl
      refine o_aload H213 rfl rfl d4_183 rfl ?_
      refine o_iload H213 rfl d4_185 rfl ?_
      refine o_aload H213 rfl rfl d4_187 rfl ?_
      refine o_aastore H213 2 f218 f221 (Ins.self X213) (by decide) (Nat.le_of_ble_eq_true rfl) z187 d4_189 rfl ?_
      intro T222 h222 H222 W222 A222
      have f223 := f214.wr W222
      have f224 := f215.other W222 (Or.inl ne187_a1)
      have f225 := f216.other W222 ne187_r131
      have f226 := f217.wr W222
      have f227 := f219.other W222 (Ne.symm ne198_b187)
      have f228 := f220.wr W222
      have f229 := AZ213.other W222 (Ne.symm ne213_b187)
      have f230 := X213.wr W222
      have f231 := f221.wr W222
      have AR222 : oA (.array .long) Z h222 b187 [(.ref r131), (.ref b198), (.ref b213)] := A222
      refine o_iinc H222 (1 : Int32) (3 : Int32) rfl (by decide) rfl (L' := #[.val (.ref a1), .val (.int p1), .val (.int ((ws.length.toInt32) * (64 : Int32))), .val (.ref r131), .val (.int (3 : Int32)), .val (.ref b187), .val (.int (3 : Int32)), .val (.ref b198), .val (.ref b213), .val (.int zz1)]) rfl d4_190 rfl ?_
      refine o_goto H222 d4_193 (pt := 108) (by decide) (by decide) ?_
      refine o_iload H222 rfl d4_108 rfl ?_
      refine o_iload H222 rfl d4_110 rfl ?_
      refine o_icmp_t H222 d4_112 (by decide) (pt := 196) (by decide) (by decide) ?_
      refine o_aloadN H222 rfl rfl d4_196 rfl ?_
      refine o_aload H222 rfl rfl d4_197 rfl ?_
      refine o_putF H222 (host := "") (Or.inl (w12 hw)) f224 f223 (Or.inl (w13 hw)) (w2 hw) (ty := (.array (.array .long))) (by decide) rfl rfl g_a1 d4_199 rfl ?_
      intro T232 h232 H232 W232
      have f233 := f223.wr W232
      have f234 := f224.same W232
      have f235 := f225.other W232 (Ne.symm na131)
      have f236 := f226.wr W232
      have f237 := AR222.other W232 (Ne.symm ne187_a1)
      have f238 := f227.other W232 (Ne.symm ne198_a1)
      have f239 := f228.wr W232
      have f240 := f229.other W232 (Ne.symm ne213_a1)
      have f241 := f230.wr W232
      have f242 := f231.wr W232
      have hne2 : (ws ++ List.replicate (N - ws.length) (0 : Int64)) ≠ [] := by intro q; rw [q] at hrl; simp at hrl; omega
      have AU : oA .long Z h232 b198 ((List.replicate (((ws ++ List.replicate (N - ws.length) (0 : Int64)).length + 63) / 64) (0 : Int64)).map Value.long) := by rw [hrl]; exact f238
      exact o_return H232 rfl d4_202 (by decide) (by decide) ⟨rfl, (ws ++ List.replicate (N - ws.length) (0 : Int64)), ⟨b187, _, f233, g_a1, f234, f237, Or.inr ⟨r131, _, rfl, hne2, f235, z131, (Ne.symm na131), ne187_r131, Or.inr ⟨b198, _, rfl, (Ne.symm ne198_r131), AU⟩⟩⟩, by rw [hrl]; exact hNB, by rw [hrl]; exact hiN, _, rfl⟩
theorem d3_0 : decode prog_62_method_4_code 0 = .ok (.aload_n 0, 1) := by decide +kernel
theorem d3_1 : decode prog_62_method_4_code 1 = .ok (.getfield 11, 3) := by decide +kernel
theorem d3_4 : decode prog_62_method_4_code 4 = .ok (.arraylength, 1) := by decide +kernel
theorem d3_5 : decode prog_62_method_4_code 5 = .ok (.ifCond .eq 17, 3) := by decide +kernel
theorem d3_8 : decode prog_62_method_4_code 8 = .ok (.iload_n 1, 1) := by decide +kernel
theorem d3_9 : decode prog_62_method_4_code 9 = .ok (.aload_n 0, 1) := by decide +kernel
theorem d3_10 : decode prog_62_method_4_code 10 = .ok (.getfield 11, 3) := by decide +kernel
theorem d3_13 : decode prog_62_method_4_code 13 = .ok (.iconst 0, 1) := by decide +kernel
theorem d3_14 : decode prog_62_method_4_code 14 = .ok (.aaload, 1) := by decide +kernel
theorem d3_15 : decode prog_62_method_4_code 15 = .ok (.arraylength, 1) := by decide +kernel
theorem d3_16 : decode prog_62_method_4_code 16 = .ok (.bipush 64, 2) := by decide +kernel
theorem d3_18 : decode prog_62_method_4_code 18 = .ok (.imul, 1) := by decide +kernel
theorem d3_19 : decode prog_62_method_4_code 19 = .ok (.if_icmp .lt 10, 3) := by decide +kernel
theorem d3_22 : decode prog_62_method_4_code 22 = .ok (.aload_n 0, 1) := by decide +kernel
theorem d3_23 : decode prog_62_method_4_code 23 = .ok (.iload_n 1, 1) := by decide +kernel
theorem d3_24 : decode prog_62_method_4_code 24 = .ok (.iconst 1, 1) := by decide +kernel
theorem d3_25 : decode prog_62_method_4_code 25 = .ok (.iadd, 1) := by decide +kernel
theorem d3_26 : decode prog_62_method_4_code 26 = .ok (.invokevirtual 46, 3) := by decide +kernel
theorem d3_29 : decode prog_62_method_4_code 29 = .ok (.iconst 0, 1) := by decide +kernel
theorem d3_30 : decode prog_62_method_4_code 30 = .ok (.istore_n 2, 1) := by decide +kernel
theorem d3_31 : decode prog_62_method_4_code 31 = .ok (.iload_n 1, 1) := by decide +kernel
theorem d3_32 : decode prog_62_method_4_code 32 = .ok (.istore_n 3, 1) := by decide +kernel
theorem d3_33 : decode prog_62_method_4_code 33 = .ok (.iload_n 2, 1) := by decide +kernel
theorem d3_34 : decode prog_62_method_4_code 34 = .ok (.aload_n 0, 1) := by decide +kernel
theorem d3_35 : decode prog_62_method_4_code 35 = .ok (.getfield 11, 3) := by decide +kernel
theorem d3_38 : decode prog_62_method_4_code 38 = .ok (.arraylength, 1) := by decide +kernel
theorem d3_39 : decode prog_62_method_4_code 39 = .ok (.if_icmp .ge 52, 3) := by decide +kernel
theorem d3_42 : decode prog_62_method_4_code 42 = .ok (.aload_n 0, 1) := by decide +kernel
theorem d3_43 : decode prog_62_method_4_code 43 = .ok (.getfield 11, 3) := by decide +kernel
theorem d3_46 : decode prog_62_method_4_code 46 = .ok (.iload_n 2, 1) := by decide +kernel
theorem d3_47 : decode prog_62_method_4_code 47 = .ok (.aaload, 1) := by decide +kernel
theorem d3_48 : decode prog_62_method_4_code 48 = .ok (.astore 4, 2) := by decide +kernel
theorem d3_50 : decode prog_62_method_4_code 50 = .ok (.aload 4, 2) := by decide +kernel
theorem d3_52 : decode prog_62_method_4_code 52 = .ok (.iload_n 3, 1) := by decide +kernel
theorem d3_53 : decode prog_62_method_4_code 53 = .ok (.bipush 64, 2) := by decide +kernel
theorem d3_55 : decode prog_62_method_4_code 55 = .ok (.idiv, 1) := by decide +kernel
theorem d3_56 : decode prog_62_method_4_code 56 = .ok (.dup2, 1) := by decide +kernel
theorem d3_57 : decode prog_62_method_4_code 57 = .ok (.laload, 1) := by decide +kernel
theorem d3_58 : decode prog_62_method_4_code 58 = .ok (.lconst 1, 1) := by decide +kernel
theorem d3_59 : decode prog_62_method_4_code 59 = .ok (.iload_n 3, 1) := by decide +kernel
theorem d3_60 : decode prog_62_method_4_code 60 = .ok (.lshl, 1) := by decide +kernel
theorem d3_61 : decode prog_62_method_4_code 61 = .ok (.lor, 1) := by decide +kernel
theorem d3_62 : decode prog_62_method_4_code 62 = .ok (.lastore, 1) := by decide +kernel
theorem d3_63 : decode prog_62_method_4_code 63 = .ok (.aload 4, 2) := by decide +kernel
theorem d3_65 : decode prog_62_method_4_code 65 = .ok (.iload_n 3, 1) := by decide +kernel
theorem d3_66 : decode prog_62_method_4_code 66 = .ok (.bipush 64, 2) := by decide +kernel
theorem d3_68 : decode prog_62_method_4_code 68 = .ok (.idiv, 1) := by decide +kernel
theorem d3_69 : decode prog_62_method_4_code 69 = .ok (.laload, 1) := by decide +kernel
theorem d3_70 : decode prog_62_method_4_code 70 = .ok (.ldc2_w 29, 3) := by decide +kernel
theorem d3_73 : decode prog_62_method_4_code 73 = .ok (.lcmp, 1) := by decide +kernel
theorem d3_74 : decode prog_62_method_4_code 74 = .ok (.ifCond .eq 6, 3) := by decide +kernel
theorem d3_77 : decode prog_62_method_4_code 77 = .ok (.goto 14, 3) := by decide +kernel
theorem d3_91 : decode prog_62_method_4_code 91 = .ok (.return_, 1) := by decide +kernel
theorem pn3 : plainFor (⟨"com/example/following_sibling/followingsibling/MarkedIndexes", "mark", "(I)V"⟩ : MethodName) = true := plainFor_of_name (by first | (simp [plainName, overriddenIn]; done) | decide +kernel)
theorem pd3 : parseMethodDescriptor "(I)V" = some ⟨[.int], none⟩ := by decide +kernel
set_option maxRecDepth 65536 in
set_option maxHeartbeats 40000000 in
theorem rmK_130 (l : Launch) (Z : State) (a0 : Array Value) (hw : ∀ d ∈ tables_1, d.before a0 Z = true) (a1 : Addr) (p1 : Int32) (ws : List Int64) (i a b c0 : Nat) (Q : Option Value → Heap → Prop) (h0 : Heap) (n0 : Nat) (MM : own_M Z h0 n0 a1 ws) (hp : p1.toInt = (i : Int)) (hk : i / 64 < ws.length) (hs : own_sub ws a b c0) (ha : i = a ∨ i = b ∨ i = c0) (hQ : ∀ h, own_M Z h n0 a1 (ws.set (i / 64) (ws.getD (i / 64) 0 ||| ((1 : Int64) <<< (p1.toInt64 &&& 63)))) → Q none h) (p : Program) (e : Env) (s : State) (m : MethodId) (below : List Frame) (meth : Method) (c : Code) (T : State) (H : oH p l e ({ frames := 4, cells := 5, slots := 160, locals := 84 } : Room) s m #[.ref a1, .int p1] below meth c prog_62_method_4_code 5 (⟨"com/example/following_sibling/followingsibling/MarkedIndexes", "mark", "(I)V"⟩ : MethodName) none Z n0 T h0 5 160) :
    oG p e below s n0 5 160 (Q) (T.setTop (mkF m 29 #[.val (.ref a1), .val (.int p1), .unset, .unset, .unset] [])) := by
  have MM0 := MM
  obtain ⟨la, vs, E_a1, g_a1, FL, AL, hc⟩ := MM
  rcases hc with ⟨rfl, rfl⟩ | ⟨w0, rest, rfl, hne, A0, g_w0, nwa, nwl, hup⟩
  · exact absurd hk (Nat.not_lt_zero _)
  · have hL := o_len1 AL
    refine o_iconst H (0 : Int32) rfl d3_29 rfl ?_
    refine o_istoreN H (L' := #[.val (.ref a1), .val (.int p1), .val (.int (0 : Int32)), .unset, .unset]) rfl d3_30 rfl ?_
    refine o_iloadN H rfl d3_31 rfl ?_
    refine o_istoreN H (L' := #[.val (.ref a1), .val (.int p1), .val (.int (0 : Int32)), .val (.int p1), .unset]) rfl d3_32 rfl ?_
    refine o_iloadN H rfl d3_33 rfl ?_
    refine o_aloadN H rfl rfl d3_34 rfl ?_
    refine o_getF H (host := "") (Or.inl (w12 hw)) FL d3_35 rfl ?_
    intro T1 H2
    refine o_arraylength H2 ((Value.ref w0 :: rest).length.toInt32) AL rfl d3_38 rfl ?_
    refine o_icmp_f H2 d3_39 (XT.ii_ge_f hL.1) rfl ?_
    refine o_aloadN H2 rfl rfl d3_42 rfl ?_
    refine o_getF H2 (host := "") (Or.inl (w12 hw)) FL d3_43 rfl ?_
    intro T3 H4
    refine o_iloadN H4 rfl d3_46 rfl ?_
    refine o_aaload H4 0 (.ref w0) AL rfl (by decide) rfl d3_47 rfl ?_
    refine o_astore H4 (L' := #[.val (.ref a1), .val (.int p1), .val (.int (0 : Int32)), .val (.int p1), .val (.ref w0)]) rfl rfl d3_48 rfl ?_
    refine o_aload H4 rfl rfl d3_50 rfl ?_
    refine o_iloadN H4 rfl d3_52 rfl ?_
    refine o_bipush H4 (64 : Int32) rfl d3_53 rfl ?_
    refine o_idiv H4 (by decide) d3_55 rfl ?_
    refine o_dup2 H4 rfl rfl d3_56 rfl ?_
    refine o_laload H4 (i / 64) (.long (ws.getD (i / 64) 0)) A0 (own_div hp) (own_get hk) d3_57 rfl ?_
    refine o_lconst H4 (1 : Int64) rfl d3_58 rfl ?_
    refine o_iloadN H4 rfl d3_59 rfl ?_
    refine o_lshl H4 d3_60 rfl ?_
    refine o_lor H4 d3_61 rfl ?_
    refine o_lastore H4 (i / 64) A0 (own_div hp) (by rw [List.length_map]; exact hk) g_w0 d3_62 rfl ?_
    intro T5 h5 H5 W5 A5
    have f6 := E_a1.wr W5
    have f7 := FL.other W5 (Or.inl (Ne.symm nwa))
    have f8 := AL.other W5 (Ne.symm nwl)
    refine o_aload H5 rfl rfl d3_63 rfl ?_
    refine o_iloadN H5 rfl d3_65 rfl ?_
    refine o_bipush H5 (64 : Int32) rfl d3_66 rfl ?_
    refine o_idiv H5 (by decide) d3_68 rfl ?_
    refine o_laload H5 (i / 64) (.long (ws.getD (i / 64) 0 ||| ((1 : Int64) <<< (p1.toInt64 &&& 63)))) A5 (own_div hp) (by rw [List.getElem?_set_self (by rw [List.length_map]; exact hk)]) d3_69 rfl ?_
    refine o_ldcJ H5 (-1 : Int64) (w40 hw) d3_70 rfl ?_
    refine o_lcmp H5 d3_73 rfl ?_
    refine o_ifl_eq H5 d3_74 (pt := 80) (by decide) (by decide) rfl ?_ ?_
    · intro c74_9
      exact absurd c74_9 (own_fullv hk (own_subm hp hk hs ha))
    · intro c74_9
      refine o_goto H5 d3_77 (pt := 91) (by decide) (by decide) ?_
      have A9 := A5
      rw [← List.map_set] at A9
      have hup2 : (rest = [] ∧ (ws.set (i / 64) (ws.getD (i / 64) 0 ||| ((1 : Int64) <<< (p1.toInt64 &&& 63)))).length = 1) ∨ ∃ (w1 : Addr) (rest' : List Value), rest = .ref w1 :: rest' ∧ w1 ≠ w0 ∧ oA .long Z h5 w1 ((List.replicate (((ws.set (i / 64) (ws.getD (i / 64) 0 ||| ((1 : Int64) <<< (p1.toInt64 &&& 63)))).length + 63) / 64) (0 : Int64)).map Value.long) := by
        rw [List.length_set]
        rcases hup with q | ⟨w1, rest', q1, q2, q3⟩
        · exact Or.inl q
        · exact Or.inr ⟨w1, rest', q1, q2, q3.other W5 q2⟩
      exact o_return H5 rfl d3_91 (by decide) (by decide) (hQ _ ⟨la, _, f6, g_a1, f7, f8, Or.inr ⟨w0, rest, rfl, by intro q; exact hne (by simpa using q), A9, g_w0, nwa, nwl, hup2⟩⟩)
set_option maxRecDepth 65536 in
set_option maxHeartbeats 40000000 in
theorem rm3_130 (l : Launch) (Z : State) (a0 : Array Value) (hw : ∀ d ∈ tables_1, d.before a0 Z = true) (a1 : Addr) (p1 : Int32) (ws : List Int64) (i a b c0 : Nat) (h0 : Heap) (n0 : Nat) (Z0 : n0 ≤ h0.size) (MM : own_M Z h0 n0 a1 ws) (hp : p1.toInt = (i : Int)) (hi : i < 4223) (hn0 : ws.length ≤ 130) (hs : own_sub ws a b c0) (ha : i = a ∨ i = b ∨ i = c0) :
    oC l Z n0 (⟨"com/example/following_sibling/followingsibling/MarkedIndexes", "mark", "(I)V"⟩ : MethodName) prog_62_method_4_code 5 none ({ frames := 4, cells := 5, slots := 160, locals := 84 } : Room) 5 160 #[(.ref a1), (.int p1)] h0 (fun v h => v = none ∧ ∃ ws2, own_M Z h n0 a1 ws2 ∧ ws2.length ≤ 130 ∧ ∀ j, own_bit ws2 j = (own_bit ws j || decide (j = i))) := by
  refine oC.of (L := #[.val (.ref a1), .val (.int p1), .unset, .unset, .unset]) pn3 Z0 (fun m => by first | (simp [entryFrame, mkF, argsToLocals, Value.category]; done) | rfl) ?_
  intro p e s m below meth c T H
  have MM0 := MM
  obtain ⟨la, vs, E_a1, g_a1, FL, AL, hc⟩ := MM
  rcases hc with ⟨rfl, rfl⟩ | ⟨w0, rest, rfl, hne, A0, g_w0, nwa, nwl, hup⟩
  · skip
    refine o_aloadN H rfl rfl d3_0 rfl ?_
    refine o_getF H (host := "") (Or.inl (w12 hw)) FL d3_1 rfl ?_
    intro T1 H2
    refine o_arraylength H2 (0 : Int32) AL rfl d3_4 rfl ?_
    refine o_if_t H2 d3_5 (by decide) (pt := 22) (by decide) (by decide) ?_
    refine o_aloadN H2 rfl rfl d3_22 rfl ?_
    refine o_iloadN H2 rfl d3_23 rfl ?_
    refine o_iconst H2 (1 : Int32) rfl d3_24 rfl ?_
    refine o_iadd H2 d3_25 rfl ?_
    refine o_private (zq := (⟨"com/example/following_sibling/followingsibling/MarkedIndexes", "mark", "(I)V"⟩ : MethodName)) H2 [(.int (p1 + (1 : Int32)))] [] (rm4_130 l Z a0 hw a1 (p1 + (1 : Int32)) [] i h0 n0 H2.le MM0 (own_p1' hp (by omega)) (by omega) (by simp) (by simp) (own_full hs)) E_a1 (w19 hw) (w21 hw) (w17 hw) rfl (w20 hw) (w3 hw) (w22 hw) (by decide) (lenOf pd4 rfl) rfl rfl (by decide) (Nat.le_of_ble_eq_true rfl) (by decide) (by decide) d3_26 rfl ?_
    intro T3 v3 h3 H3 q3
    obtain ⟨rfl, ws3, M3, hb3, hk3, kk3, hw3⟩ := q3
    show oG p e below s n0 _ _ _ (T3.setTop (mkF m 29 #[.val (.ref a1), .val (.int p1), .unset, .unset, .unset] []))
    have hbit : ∀ j, own_bit ws3 j = own_bit ([] : List Int64) j := by intro j; rw [hw3]; exact own_app kk3 j
    have hsk : own_sub ws3 a b c0 := fun j q => hs j ((hbit j) ▸ q)
    exact rmK_130 l Z a0 hw a1 p1 ws3 i a b c0 _ h3 n0 M3 hp hk3 hsk ha (fun h q => ⟨rfl, _, q, by rw [List.length_set]; exact hb3, fun j => by rw [own_or hp hk3, hbit j]⟩) p e s m below meth c _ (H3.more (by decide) (by decide))
  · have hL := o_len1 AL
    have hn := own_nl (n := ws.length) (by omega)
    have hm := own_m64 hn (by omega)
    refine o_aloadN H rfl rfl d3_0 rfl ?_
    refine o_getF H (host := "") (Or.inl (w12 hw)) FL d3_1 rfl ?_
    intro T4 H5
    refine o_arraylength H5 ((Value.ref w0 :: rest).length.toInt32) AL rfl d3_4 rfl ?_
    refine o_if_f H5 d3_5 (XT.i0_eq_f (by rw [n_eq]; have := (n_lt _ _).mp hL.1; omega)) rfl ?_
    refine o_iloadN H5 rfl d3_8 rfl ?_
    refine o_aloadN H5 rfl rfl d3_9 rfl ?_
    refine o_getF H5 (host := "") (Or.inl (w12 hw)) FL d3_10 rfl ?_
    intro T6 H7
    refine o_iconst H7 (0 : Int32) rfl d3_13 rfl ?_
    refine o_aaload H7 0 (.ref w0) AL rfl (by decide) rfl d3_14 rfl ?_
    refine o_arraylength H7 (ws.length.toInt32) A0 (by rw [List.length_map]) d3_15 rfl ?_
    refine o_bipush H7 (64 : Int32) rfl d3_16 rfl ?_
    refine o_imul H7 d3_18 rfl ?_
    refine o_icmp_lt H7 d3_19 (pt := 29) (by decide) (by decide) rfl ?_ ?_
    · intro c19_8
      have hk : i / 64 < ws.length := (own_inw hp hm).mp c19_8
      exact rmK_130 l Z a0 hw a1 p1 ws i a b c0 _ h0 n0 MM0 hp hk hs ha (fun h q => ⟨rfl, _, q, by rw [List.length_set]; omega, fun j => by rw [own_or hp hk]⟩) p e s m below meth c _ (H7.more (by decide) (by decide))
    · intro c19_8
      refine o_aloadN H7 rfl rfl d3_22 rfl ?_
      refine o_iloadN H7 rfl d3_23 rfl ?_
      refine o_iconst H7 (1 : Int32) rfl d3_24 rfl ?_
      refine o_iadd H7 d3_25 rfl ?_
      refine o_private (zq := (⟨"com/example/following_sibling/followingsibling/MarkedIndexes", "mark", "(I)V"⟩ : MethodName)) H7 [(.int (p1 + (1 : Int32)))] [] (rm4_130 l Z a0 hw a1 (p1 + (1 : Int32)) ws i h0 n0 H7.le MM0 (own_p1' hp (by omega)) (by omega) (by omega) (by have q := c19_8; rw [own_inw hp hm] at q; omega) (own_full hs)) E_a1 (w19 hw) (w21 hw) (w17 hw) rfl (w20 hw) (w3 hw) (w22 hw) (by decide) (lenOf pd4 rfl) rfl rfl (by decide) (Nat.le_of_ble_eq_true rfl) (by decide) (by decide) d3_26 rfl ?_
      intro T9 v9 h9 H9 q9
      obtain ⟨rfl, ws9, M9, hb9, hk9, kk9, hw9⟩ := q9
      show oG p e below s n0 _ _ _ (T9.setTop (mkF m 29 #[.val (.ref a1), .val (.int p1), .unset, .unset, .unset] []))
      have hbit : ∀ j, own_bit ws9 j = own_bit ws j := by intro j; rw [hw9]; exact own_app kk9 j
      have hsk : own_sub ws9 a b c0 := fun j q => hs j ((hbit j) ▸ q)
      exact rmK_130 l Z a0 hw a1 p1 ws9 i a b c0 _ h9 n0 M9 hp hk9 hsk ha (fun h q => ⟨rfl, _, q, by rw [List.length_set]; exact hb9, fun j => by rw [own_or hp hk9, hbit j]⟩) p e s m below meth c _ (H9.more (by decide) (by decide))
set_option maxRecDepth 65536 in
set_option maxHeartbeats 40000000 in
theorem rmK_1024 (l : Launch) (Z : State) (a0 : Array Value) (hw : ∀ d ∈ tables_1, d.before a0 Z = true) (a1 : Addr) (p1 : Int32) (ws : List Int64) (i a b c0 : Nat) (Q : Option Value → Heap → Prop) (h0 : Heap) (n0 : Nat) (MM : own_M Z h0 n0 a1 ws) (hp : p1.toInt = (i : Int)) (hk : i / 64 < ws.length) (hs : own_sub ws a b c0) (ha : i = a ∨ i = b ∨ i = c0) (hQ : ∀ h, own_M Z h n0 a1 (ws.set (i / 64) (ws.getD (i / 64) 0 ||| ((1 : Int64) <<< (p1.toInt64 &&& 63)))) → Q none h) (p : Program) (e : Env) (s : State) (m : MethodId) (below : List Frame) (meth : Method) (c : Code) (T : State) (H : oH p l e ({ frames := 4, cells := 5, slots := 1060, locals := 84 } : Room) s m #[.ref a1, .int p1] below meth c prog_62_method_4_code 5 (⟨"com/example/following_sibling/followingsibling/MarkedIndexes", "mark", "(I)V"⟩ : MethodName) none Z n0 T h0 5 1060) :
    oG p e below s n0 5 1060 (Q) (T.setTop (mkF m 29 #[.val (.ref a1), .val (.int p1), .unset, .unset, .unset] [])) := by
  have MM0 := MM
  obtain ⟨la, vs, E_a1, g_a1, FL, AL, hc⟩ := MM
  rcases hc with ⟨rfl, rfl⟩ | ⟨w0, rest, rfl, hne, A0, g_w0, nwa, nwl, hup⟩
  · exact absurd hk (Nat.not_lt_zero _)
  · have hL := o_len1 AL
    refine o_iconst H (0 : Int32) rfl d3_29 rfl ?_
    refine o_istoreN H (L' := #[.val (.ref a1), .val (.int p1), .val (.int (0 : Int32)), .unset, .unset]) rfl d3_30 rfl ?_
    refine o_iloadN H rfl d3_31 rfl ?_
    refine o_istoreN H (L' := #[.val (.ref a1), .val (.int p1), .val (.int (0 : Int32)), .val (.int p1), .unset]) rfl d3_32 rfl ?_
    refine o_iloadN H rfl d3_33 rfl ?_
    refine o_aloadN H rfl rfl d3_34 rfl ?_
    refine o_getF H (host := "") (Or.inl (w12 hw)) FL d3_35 rfl ?_
    intro T1 H2
    refine o_arraylength H2 ((Value.ref w0 :: rest).length.toInt32) AL rfl d3_38 rfl ?_
    refine o_icmp_f H2 d3_39 (XT.ii_ge_f hL.1) rfl ?_
    refine o_aloadN H2 rfl rfl d3_42 rfl ?_
    refine o_getF H2 (host := "") (Or.inl (w12 hw)) FL d3_43 rfl ?_
    intro T3 H4
    refine o_iloadN H4 rfl d3_46 rfl ?_
    refine o_aaload H4 0 (.ref w0) AL rfl (by decide) rfl d3_47 rfl ?_
    refine o_astore H4 (L' := #[.val (.ref a1), .val (.int p1), .val (.int (0 : Int32)), .val (.int p1), .val (.ref w0)]) rfl rfl d3_48 rfl ?_
    refine o_aload H4 rfl rfl d3_50 rfl ?_
    refine o_iloadN H4 rfl d3_52 rfl ?_
    refine o_bipush H4 (64 : Int32) rfl d3_53 rfl ?_
    refine o_idiv H4 (by decide) d3_55 rfl ?_
    refine o_dup2 H4 rfl rfl d3_56 rfl ?_
    refine o_laload H4 (i / 64) (.long (ws.getD (i / 64) 0)) A0 (own_div hp) (own_get hk) d3_57 rfl ?_
    refine o_lconst H4 (1 : Int64) rfl d3_58 rfl ?_
    refine o_iloadN H4 rfl d3_59 rfl ?_
    refine o_lshl H4 d3_60 rfl ?_
    refine o_lor H4 d3_61 rfl ?_
    refine o_lastore H4 (i / 64) A0 (own_div hp) (by rw [List.length_map]; exact hk) g_w0 d3_62 rfl ?_
    intro T5 h5 H5 W5 A5
    have f6 := E_a1.wr W5
    have f7 := FL.other W5 (Or.inl (Ne.symm nwa))
    have f8 := AL.other W5 (Ne.symm nwl)
    refine o_aload H5 rfl rfl d3_63 rfl ?_
    refine o_iloadN H5 rfl d3_65 rfl ?_
    refine o_bipush H5 (64 : Int32) rfl d3_66 rfl ?_
    refine o_idiv H5 (by decide) d3_68 rfl ?_
    refine o_laload H5 (i / 64) (.long (ws.getD (i / 64) 0 ||| ((1 : Int64) <<< (p1.toInt64 &&& 63)))) A5 (own_div hp) (by rw [List.getElem?_set_self (by rw [List.length_map]; exact hk)]) d3_69 rfl ?_
    refine o_ldcJ H5 (-1 : Int64) (w40 hw) d3_70 rfl ?_
    refine o_lcmp H5 d3_73 rfl ?_
    refine o_ifl_eq H5 d3_74 (pt := 80) (by decide) (by decide) rfl ?_ ?_
    · intro c74_9
      exact absurd c74_9 (own_fullv hk (own_subm hp hk hs ha))
    · intro c74_9
      refine o_goto H5 d3_77 (pt := 91) (by decide) (by decide) ?_
      have A9 := A5
      rw [← List.map_set] at A9
      have hup2 : (rest = [] ∧ (ws.set (i / 64) (ws.getD (i / 64) 0 ||| ((1 : Int64) <<< (p1.toInt64 &&& 63)))).length = 1) ∨ ∃ (w1 : Addr) (rest' : List Value), rest = .ref w1 :: rest' ∧ w1 ≠ w0 ∧ oA .long Z h5 w1 ((List.replicate (((ws.set (i / 64) (ws.getD (i / 64) 0 ||| ((1 : Int64) <<< (p1.toInt64 &&& 63)))).length + 63) / 64) (0 : Int64)).map Value.long) := by
        rw [List.length_set]
        rcases hup with q | ⟨w1, rest', q1, q2, q3⟩
        · exact Or.inl q
        · exact Or.inr ⟨w1, rest', q1, q2, q3.other W5 q2⟩
      exact o_return H5 rfl d3_91 (by decide) (by decide) (hQ _ ⟨la, _, f6, g_a1, f7, f8, Or.inr ⟨w0, rest, rfl, by intro q; exact hne (by simpa using q), A9, g_w0, nwa, nwl, hup2⟩⟩)
set_option maxRecDepth 65536 in
set_option maxHeartbeats 40000000 in
theorem rm3_1024 (l : Launch) (Z : State) (a0 : Array Value) (hw : ∀ d ∈ tables_1, d.before a0 Z = true) (a1 : Addr) (p1 : Int32) (ws : List Int64) (i a b c0 : Nat) (h0 : Heap) (n0 : Nat) (Z0 : n0 ≤ h0.size) (MM : own_M Z h0 n0 a1 ws) (hp : p1.toInt = (i : Int)) (hi : i < 65536) (hn0 : ws.length ≤ 130) (hs : own_sub ws a b c0) (ha : i = a ∨ i = b ∨ i = c0) :
    oC l Z n0 (⟨"com/example/following_sibling/followingsibling/MarkedIndexes", "mark", "(I)V"⟩ : MethodName) prog_62_method_4_code 5 none ({ frames := 4, cells := 5, slots := 1060, locals := 84 } : Room) 5 1060 #[(.ref a1), (.int p1)] h0 (fun v h => v = none ∧ ∃ ws2, own_M Z h n0 a1 ws2 ∧ ws2.length ≤ 1024 ∧ ∀ j, own_bit ws2 j = (own_bit ws j || decide (j = i))) := by
  refine oC.of (L := #[.val (.ref a1), .val (.int p1), .unset, .unset, .unset]) pn3 Z0 (fun m => by first | (simp [entryFrame, mkF, argsToLocals, Value.category]; done) | rfl) ?_
  intro p e s m below meth c T H
  have MM0 := MM
  obtain ⟨la, vs, E_a1, g_a1, FL, AL, hc⟩ := MM
  rcases hc with ⟨rfl, rfl⟩ | ⟨w0, rest, rfl, hne, A0, g_w0, nwa, nwl, hup⟩
  · skip
    refine o_aloadN H rfl rfl d3_0 rfl ?_
    refine o_getF H (host := "") (Or.inl (w12 hw)) FL d3_1 rfl ?_
    intro T1 H2
    refine o_arraylength H2 (0 : Int32) AL rfl d3_4 rfl ?_
    refine o_if_t H2 d3_5 (by decide) (pt := 22) (by decide) (by decide) ?_
    refine o_aloadN H2 rfl rfl d3_22 rfl ?_
    refine o_iloadN H2 rfl d3_23 rfl ?_
    refine o_iconst H2 (1 : Int32) rfl d3_24 rfl ?_
    refine o_iadd H2 d3_25 rfl ?_
    refine o_private (zq := (⟨"com/example/following_sibling/followingsibling/MarkedIndexes", "mark", "(I)V"⟩ : MethodName)) H2 [(.int (p1 + (1 : Int32)))] [] (rm4_1024 l Z a0 hw a1 (p1 + (1 : Int32)) [] i h0 n0 H2.le MM0 (own_p1' hp (by omega)) (by omega) (by simp) (by simp) (own_full hs)) E_a1 (w19 hw) (w21 hw) (w17 hw) rfl (w20 hw) (w3 hw) (w22 hw) (by decide) (lenOf pd4 rfl) rfl rfl (by decide) (Nat.le_of_ble_eq_true rfl) (by decide) (by decide) d3_26 rfl ?_
    intro T3 v3 h3 H3 q3
    obtain ⟨rfl, ws3, M3, hb3, hk3, kk3, hw3⟩ := q3
    show oG p e below s n0 _ _ _ (T3.setTop (mkF m 29 #[.val (.ref a1), .val (.int p1), .unset, .unset, .unset] []))
    have hbit : ∀ j, own_bit ws3 j = own_bit ([] : List Int64) j := by intro j; rw [hw3]; exact own_app kk3 j
    have hsk : own_sub ws3 a b c0 := fun j q => hs j ((hbit j) ▸ q)
    exact rmK_1024 l Z a0 hw a1 p1 ws3 i a b c0 _ h3 n0 M3 hp hk3 hsk ha (fun h q => ⟨rfl, _, q, by rw [List.length_set]; exact hb3, fun j => by rw [own_or hp hk3, hbit j]⟩) p e s m below meth c _ (H3.more (by decide) (by decide))
  · have hL := o_len1 AL
    have hn := own_nl (n := ws.length) (by omega)
    have hm := own_m64 hn (by omega)
    refine o_aloadN H rfl rfl d3_0 rfl ?_
    refine o_getF H (host := "") (Or.inl (w12 hw)) FL d3_1 rfl ?_
    intro T4 H5
    refine o_arraylength H5 ((Value.ref w0 :: rest).length.toInt32) AL rfl d3_4 rfl ?_
    refine o_if_f H5 d3_5 (XT.i0_eq_f (by rw [n_eq]; have := (n_lt _ _).mp hL.1; omega)) rfl ?_
    refine o_iloadN H5 rfl d3_8 rfl ?_
    refine o_aloadN H5 rfl rfl d3_9 rfl ?_
    refine o_getF H5 (host := "") (Or.inl (w12 hw)) FL d3_10 rfl ?_
    intro T6 H7
    refine o_iconst H7 (0 : Int32) rfl d3_13 rfl ?_
    refine o_aaload H7 0 (.ref w0) AL rfl (by decide) rfl d3_14 rfl ?_
    refine o_arraylength H7 (ws.length.toInt32) A0 (by rw [List.length_map]) d3_15 rfl ?_
    refine o_bipush H7 (64 : Int32) rfl d3_16 rfl ?_
    refine o_imul H7 d3_18 rfl ?_
    refine o_icmp_lt H7 d3_19 (pt := 29) (by decide) (by decide) rfl ?_ ?_
    · intro c19_8
      have hk : i / 64 < ws.length := (own_inw hp hm).mp c19_8
      exact rmK_1024 l Z a0 hw a1 p1 ws i a b c0 _ h0 n0 MM0 hp hk hs ha (fun h q => ⟨rfl, _, q, by rw [List.length_set]; omega, fun j => by rw [own_or hp hk]⟩) p e s m below meth c _ (H7.more (by decide) (by decide))
    · intro c19_8
      refine o_aloadN H7 rfl rfl d3_22 rfl ?_
      refine o_iloadN H7 rfl d3_23 rfl ?_
      refine o_iconst H7 (1 : Int32) rfl d3_24 rfl ?_
      refine o_iadd H7 d3_25 rfl ?_
      refine o_private (zq := (⟨"com/example/following_sibling/followingsibling/MarkedIndexes", "mark", "(I)V"⟩ : MethodName)) H7 [(.int (p1 + (1 : Int32)))] [] (rm4_1024 l Z a0 hw a1 (p1 + (1 : Int32)) ws i h0 n0 H7.le MM0 (own_p1' hp (by omega)) (by omega) (by omega) (by have q := c19_8; rw [own_inw hp hm] at q; omega) (own_full hs)) E_a1 (w19 hw) (w21 hw) (w17 hw) rfl (w20 hw) (w3 hw) (w22 hw) (by decide) (lenOf pd4 rfl) rfl rfl (by decide) (Nat.le_of_ble_eq_true rfl) (by decide) (by decide) d3_26 rfl ?_
      intro T9 v9 h9 H9 q9
      obtain ⟨rfl, ws9, M9, hb9, hk9, kk9, hw9⟩ := q9
      show oG p e below s n0 _ _ _ (T9.setTop (mkF m 29 #[.val (.ref a1), .val (.int p1), .unset, .unset, .unset] []))
      have hbit : ∀ j, own_bit ws9 j = own_bit ws j := by intro j; rw [hw9]; exact own_app kk9 j
      have hsk : own_sub ws9 a b c0 := fun j q => hs j ((hbit j) ▸ q)
      exact rmK_1024 l Z a0 hw a1 p1 ws9 i a b c0 _ h9 n0 M9 hp hk9 hsk ha (fun h q => ⟨rfl, _, q, by rw [List.length_set]; exact hb9, fun j => by rw [own_or hp hk9, hbit j]⟩) p e s m below meth c _ (H9.more (by decide) (by decide))
theorem d8_0 : decode prog_62_method_5_code 0 = .ok (.aload_n 0, 1) := by decide +kernel
theorem d8_1 : decode prog_62_method_5_code 1 = .ok (.getfield 11, 3) := by decide +kernel
theorem d8_4 : decode prog_62_method_5_code 4 = .ok (.arraylength, 1) := by decide +kernel
theorem d8_5 : decode prog_62_method_5_code 5 = .ok (.ifCond .le 21, 3) := by decide +kernel
theorem d8_8 : decode prog_62_method_5_code 8 = .ok (.iload_n 1, 1) := by decide +kernel
theorem d8_9 : decode prog_62_method_5_code 9 = .ok (.aload_n 0, 1) := by decide +kernel
theorem d8_10 : decode prog_62_method_5_code 10 = .ok (.getfield 11, 3) := by decide +kernel
theorem d8_13 : decode prog_62_method_5_code 13 = .ok (.iconst 0, 1) := by decide +kernel
theorem d8_14 : decode prog_62_method_5_code 14 = .ok (.aaload, 1) := by decide +kernel
theorem d8_15 : decode prog_62_method_5_code 15 = .ok (.arraylength, 1) := by decide +kernel
theorem d8_16 : decode prog_62_method_5_code 16 = .ok (.bipush 64, 2) := by decide +kernel
theorem d8_18 : decode prog_62_method_5_code 18 = .ok (.imul, 1) := by decide +kernel
theorem d8_19 : decode prog_62_method_5_code 19 = .ok (.if_icmp .ge 7, 3) := by decide +kernel
theorem d8_22 : decode prog_62_method_5_code 22 = .ok (.iconst 1, 1) := by decide +kernel
theorem d8_23 : decode prog_62_method_5_code 23 = .ok (.goto 4, 3) := by decide +kernel
theorem d8_26 : decode prog_62_method_5_code 26 = .ok (.iconst 0, 1) := by decide +kernel
theorem d8_27 : decode prog_62_method_5_code 27 = .ok (.istore_n 2, 1) := by decide +kernel
theorem d8_28 : decode prog_62_method_5_code 28 = .ok (.iconst 0, 1) := by decide +kernel
theorem d8_29 : decode prog_62_method_5_code 29 = .ok (.istore_n 3, 1) := by decide +kernel
theorem d8_30 : decode prog_62_method_5_code 30 = .ok (.iload_n 1, 1) := by decide +kernel
theorem d8_31 : decode prog_62_method_5_code 31 = .ok (.istore 4, 2) := by decide +kernel
theorem d8_33 : decode prog_62_method_5_code 33 = .ok (.iload_n 2, 1) := by decide +kernel
theorem d8_34 : decode prog_62_method_5_code 34 = .ok (.ifCond .eq 77, 3) := by decide +kernel
theorem d8_37 : decode prog_62_method_5_code 37 = .ok (.iload_n 3, 1) := by decide +kernel
theorem d8_38 : decode prog_62_method_5_code 38 = .ok (.aload_n 0, 1) := by decide +kernel
theorem d8_39 : decode prog_62_method_5_code 39 = .ok (.getfield 11, 3) := by decide +kernel
theorem d8_42 : decode prog_62_method_5_code 42 = .ok (.arraylength, 1) := by decide +kernel
theorem d8_43 : decode prog_62_method_5_code 43 = .ok (.if_icmp .ge 68, 3) := by decide +kernel
theorem d8_46 : decode prog_62_method_5_code 46 = .ok (.aload_n 0, 1) := by decide +kernel
theorem d8_47 : decode prog_62_method_5_code 47 = .ok (.getfield 11, 3) := by decide +kernel
theorem d8_50 : decode prog_62_method_5_code 50 = .ok (.iload_n 3, 1) := by decide +kernel
theorem d8_51 : decode prog_62_method_5_code 51 = .ok (.aaload, 1) := by decide +kernel
theorem d8_52 : decode prog_62_method_5_code 52 = .ok (.astore 5, 2) := by decide +kernel
theorem d8_54 : decode prog_62_method_5_code 54 = .ok (.aload 5, 2) := by decide +kernel
theorem d8_56 : decode prog_62_method_5_code 56 = .ok (.iload 4, 2) := by decide +kernel
theorem d8_58 : decode prog_62_method_5_code 58 = .ok (.bipush 64, 2) := by decide +kernel
theorem d8_60 : decode prog_62_method_5_code 60 = .ok (.idiv, 1) := by decide +kernel
theorem d8_61 : decode prog_62_method_5_code 61 = .ok (.laload, 1) := by decide +kernel
theorem d8_62 : decode prog_62_method_5_code 62 = .ok (.ldc2_w 29, 3) := by decide +kernel
theorem d8_65 : decode prog_62_method_5_code 65 = .ok (.lcmp, 1) := by decide +kernel
theorem d8_66 : decode prog_62_method_5_code 66 = .ok (.ifCond .ne 7, 3) := by decide +kernel
theorem d8_73 : decode prog_62_method_5_code 73 = .ok (.iconst 0, 1) := by decide +kernel
theorem d8_74 : decode prog_62_method_5_code 74 = .ok (.istore 6, 2) := by decide +kernel
theorem d8_76 : decode prog_62_method_5_code 76 = .ok (.aload 5, 2) := by decide +kernel
theorem d8_78 : decode prog_62_method_5_code 78 = .ok (.iload 4, 2) := by decide +kernel
theorem d8_80 : decode prog_62_method_5_code 80 = .ok (.bipush 64, 2) := by decide +kernel
theorem d8_82 : decode prog_62_method_5_code 82 = .ok (.idiv, 1) := by decide +kernel
theorem d8_83 : decode prog_62_method_5_code 83 = .ok (.dup2, 1) := by decide +kernel
theorem d8_84 : decode prog_62_method_5_code 84 = .ok (.laload, 1) := by decide +kernel
theorem d8_85 : decode prog_62_method_5_code 85 = .ok (.lconst 1, 1) := by decide +kernel
theorem d8_86 : decode prog_62_method_5_code 86 = .ok (.iload 4, 2) := by decide +kernel
theorem d8_88 : decode prog_62_method_5_code 88 = .ok (.lshl, 1) := by decide +kernel
theorem d8_89 : decode prog_62_method_5_code 89 = .ok (.ldc2_w 29, 3) := by decide +kernel
theorem d8_92 : decode prog_62_method_5_code 92 = .ok (.lxor, 1) := by decide +kernel
theorem d8_93 : decode prog_62_method_5_code 93 = .ok (.land, 1) := by decide +kernel
theorem d8_94 : decode prog_62_method_5_code 94 = .ok (.lastore, 1) := by decide +kernel
theorem d8_95 : decode prog_62_method_5_code 95 = .ok (.iload 6, 2) := by decide +kernel
theorem d8_97 : decode prog_62_method_5_code 97 = .ok (.istore_n 2, 1) := by decide +kernel
theorem d8_98 : decode prog_62_method_5_code 98 = .ok (.iinc 3 1, 3) := by decide +kernel
theorem d8_101 : decode prog_62_method_5_code 101 = .ok (.iload 4, 2) := by decide +kernel
theorem d8_103 : decode prog_62_method_5_code 103 = .ok (.bipush 64, 2) := by decide +kernel
theorem d8_105 : decode prog_62_method_5_code 105 = .ok (.idiv, 1) := by decide +kernel
theorem d8_106 : decode prog_62_method_5_code 106 = .ok (.istore 4, 2) := by decide +kernel
theorem d8_108 : decode prog_62_method_5_code 108 = .ok (.goto (-75), 3) := by decide +kernel
theorem d8_111 : decode prog_62_method_5_code 111 = .ok (.return_, 1) := by decide +kernel
theorem pn8 : plainFor (⟨"com/example/following_sibling/followingsibling/MarkedIndexes", "unmark", "(I)V"⟩ : MethodName) = true := plainFor_of_name (by first | (simp [plainName, overriddenIn]; done) | decide +kernel)
theorem pd8 : parseMethodDescriptor "(I)V" = some ⟨[.int], none⟩ := by decide +kernel
set_option maxRecDepth 65536 in
set_option maxHeartbeats 40000000 in
theorem rm8 (l : Launch) (Z : State) (a0 : Array Value) (hw : ∀ d ∈ tables_1, d.before a0 Z = true) (a1 : Addr) (p1 : Int32) (ws : List Int64) (i a b c0 : Nat) (h0 : Heap) (n0 : Nat) (Z0 : n0 ≤ h0.size) (MM : own_M Z h0 n0 a1 ws) (hp : p1.toInt = (i : Int)) (hi : i < 400000) (hn0 : ws.length ≤ 1024) (hs : own_sub ws a b c0) :
    oC l Z n0 (⟨"com/example/following_sibling/followingsibling/MarkedIndexes", "unmark", "(I)V"⟩ : MethodName) prog_62_method_5_code 7 none ({ frames := 0, cells := 0, slots := 0, locals := 0 } : Room) 0 0 #[(.ref a1), (.int p1)] h0 (fun v h => v = none ∧ ∃ ws2, own_M Z h n0 a1 ws2 ∧ ws2.length ≤ 1024 ∧ ∀ j, own_bit ws2 j = (own_bit ws j && !decide (j = i))) := by
  refine oC.of (L := #[.val (.ref a1), .val (.int p1), .unset, .unset, .unset, .unset, .unset]) pn8 Z0 (fun m => by first | (simp [entryFrame, mkF, argsToLocals, Value.category]; done) | rfl) ?_
  intro p e s m below meth c T H
  have MM0 := MM
  obtain ⟨la, vs, E_a1, g_a1, FL, AL, hc⟩ := MM
  rcases hc with ⟨rfl, rfl⟩ | ⟨w0, rest, rfl, hne, A0, g_w0, nwa, nwl, hup⟩
  · skip
    refine o_aloadN H rfl rfl d8_0 rfl ?_
    refine o_getF H (host := "") (Or.inl (w12 hw)) FL d8_1 rfl ?_
    intro T1 H2
    refine o_arraylength H2 (0 : Int32) AL rfl d8_4 rfl ?_
    refine o_if_t H2 d8_5 (by decide) (pt := 26) (by decide) (by decide) ?_
    refine o_iconst H2 (0 : Int32) rfl d8_26 rfl ?_
    refine o_istoreN H2 (L' := #[.val (.ref a1), .val (.int p1), .val (.int (0 : Int32)), .unset, .unset, .unset, .unset]) rfl d8_27 rfl ?_
    refine o_iconst H2 (0 : Int32) rfl d8_28 rfl ?_
    refine o_istoreN H2 (L' := #[.val (.ref a1), .val (.int p1), .val (.int (0 : Int32)), .val (.int (0 : Int32)), .unset, .unset, .unset]) rfl d8_29 rfl ?_
    refine o_iloadN H2 rfl d8_30 rfl ?_
    refine o_istore H2 (L' := #[.val (.ref a1), .val (.int p1), .val (.int (0 : Int32)), .val (.int (0 : Int32)), .val (.int p1), .unset, .unset]) rfl d8_31 rfl ?_
    refine o_iloadN H2 rfl d8_33 rfl ?_
    refine o_if_t H2 d8_34 (by decide) (pt := 111) (by decide) (by decide) ?_
    have hbb : ∀ j, own_bit ([] : List Int64) j = (own_bit ([] : List Int64) j && !decide (j = i)) := by
      intro j
      by_cases hj : j = i
      · have q : own_bit ([] : List Int64) j = false := own_nil j
        simp [q]
      · simp [hj]
    exact o_return H2 rfl d8_111 (by decide) (by decide) ⟨rfl, _, MM0, by simp, hbb⟩
  · have hL := o_len1 AL
    have hn := own_nl (n := ws.length) (by omega)
    have hm := own_m64 hn (by omega)
    refine o_aloadN H rfl rfl d8_0 rfl ?_
    refine o_getF H (host := "") (Or.inl (w12 hw)) FL d8_1 rfl ?_
    intro T3 H4
    refine o_arraylength H4 ((Value.ref w0 :: rest).length.toInt32) AL rfl d8_4 rfl ?_
    refine o_if_f H4 d8_5 (XT.i0_le_f hL.1) rfl ?_
    refine o_iloadN H4 rfl d8_8 rfl ?_
    refine o_aloadN H4 rfl rfl d8_9 rfl ?_
    refine o_getF H4 (host := "") (Or.inl (w12 hw)) FL d8_10 rfl ?_
    intro T5 H6
    refine o_iconst H6 (0 : Int32) rfl d8_13 rfl ?_
    refine o_aaload H6 0 (.ref w0) AL rfl (by decide) rfl d8_14 rfl ?_
    refine o_arraylength H6 (ws.length.toInt32) A0 (by rw [List.length_map]) d8_15 rfl ?_
    refine o_bipush H6 (64 : Int32) rfl d8_16 rfl ?_
    refine o_imul H6 d8_18 rfl ?_
    refine o_icmp_ge H6 d8_19 (pt := 26) (by decide) (by decide) rfl ?_ ?_
    · intro c19_7
      refine o_iconst H6 (0 : Int32) rfl d8_26 rfl ?_
      refine o_istoreN H6 (L' := #[.val (.ref a1), .val (.int p1), .val (.int (0 : Int32)), .unset, .unset, .unset, .unset]) rfl d8_27 rfl ?_
      refine o_iconst H6 (0 : Int32) rfl d8_28 rfl ?_
      refine o_istoreN H6 (L' := #[.val (.ref a1), .val (.int p1), .val (.int (0 : Int32)), .val (.int (0 : Int32)), .unset, .unset, .unset]) rfl d8_29 rfl ?_
      refine o_iloadN H6 rfl d8_30 rfl ?_
      refine o_istore H6 (L' := #[.val (.ref a1), .val (.int p1), .val (.int (0 : Int32)), .val (.int (0 : Int32)), .val (.int p1), .unset, .unset]) rfl d8_31 rfl ?_
      refine o_iloadN H6 rfl d8_33 rfl ?_
      refine o_if_t H6 d8_34 (by decide) (pt := 111) (by decide) (by decide) ?_
      have hbb : ∀ j, own_bit ws j = (own_bit ws j && !decide (j = i)) := by
        intro j
        by_cases hj : j = i
        · have q : own_bit ws j = false := own_out (by rw [hj]; have q := c19_7; rw [own_inw hp hm] at q; omega)
          simp [q]
        · simp [hj]
      exact o_return H6 rfl d8_111 (by decide) (by decide) ⟨rfl, _, MM0, by omega, hbb⟩
    · intro c19_7
      have hk : i / 64 < ws.length := (own_inw hp hm).mp c19_7
      refine o_iconst H6 (1 : Int32) rfl d8_22 rfl ?_
      refine o_goto H6 d8_23 (pt := 27) (by decide) (by decide) ?_
      refine o_istoreN H6 (L' := #[.val (.ref a1), .val (.int p1), .val (.int (1 : Int32)), .unset, .unset, .unset, .unset]) rfl d8_27 rfl ?_
      refine o_iconst H6 (0 : Int32) rfl d8_28 rfl ?_
      refine o_istoreN H6 (L' := #[.val (.ref a1), .val (.int p1), .val (.int (1 : Int32)), .val (.int (0 : Int32)), .unset, .unset, .unset]) rfl d8_29 rfl ?_
      refine o_iloadN H6 rfl d8_30 rfl ?_
      refine o_istore H6 (L' := #[.val (.ref a1), .val (.int p1), .val (.int (1 : Int32)), .val (.int (0 : Int32)), .val (.int p1), .unset, .unset]) rfl d8_31 rfl ?_
      refine o_iloadN H6 rfl d8_33 rfl ?_
      refine o_if_f H6 d8_34 (by decide) rfl ?_
      refine o_iloadN H6 rfl d8_37 rfl ?_
      refine o_aloadN H6 rfl rfl d8_38 rfl ?_
      refine o_getF H6 (host := "") (Or.inl (w12 hw)) FL d8_39 rfl ?_
      intro T8 H9
      refine o_arraylength H9 ((Value.ref w0 :: rest).length.toInt32) AL rfl d8_42 rfl ?_
      refine o_icmp_f H9 d8_43 (XT.ii_ge_f hL.1) rfl ?_
      refine o_aloadN H9 rfl rfl d8_46 rfl ?_
      refine o_getF H9 (host := "") (Or.inl (w12 hw)) FL d8_47 rfl ?_
      intro T10 H11
      refine o_iloadN H11 rfl d8_50 rfl ?_
      refine o_aaload H11 0 (.ref w0) AL rfl (by decide) rfl d8_51 rfl ?_
      refine o_astore H11 (L' := #[.val (.ref a1), .val (.int p1), .val (.int (1 : Int32)), .val (.int (0 : Int32)), .val (.int p1), .val (.ref w0), .unset]) rfl rfl d8_52 rfl ?_
      refine o_aload H11 rfl rfl d8_54 rfl ?_
      refine o_iload H11 rfl d8_56 rfl ?_
      refine o_bipush H11 (64 : Int32) rfl d8_58 rfl ?_
      refine o_idiv H11 (by decide) d8_60 rfl ?_
      refine o_laload H11 (i / 64) (.long (ws.getD (i / 64) 0)) A0 (own_div hp) (own_get hk) d8_61 rfl ?_
      refine o_ldcJ H11 (-1 : Int64) (w40 hw) d8_62 rfl ?_
      refine o_lcmp H11 d8_65 rfl ?_
      refine o_ifl_ne H11 d8_66 (pt := 73) (by decide) (by decide) rfl ?_ ?_
      · intro c66_12
        refine o_iconst H11 (0 : Int32) rfl d8_73 rfl ?_
        refine o_istore H11 (L' := #[.val (.ref a1), .val (.int p1), .val (.int (1 : Int32)), .val (.int (0 : Int32)), .val (.int p1), .val (.ref w0), .val (.int (0 : Int32))]) rfl d8_74 rfl ?_
        refine o_aload H11 rfl rfl d8_76 rfl ?_
        refine o_iload H11 rfl d8_78 rfl ?_
        refine o_bipush H11 (64 : Int32) rfl d8_80 rfl ?_
        refine o_idiv H11 (by decide) d8_82 rfl ?_
        refine o_dup2 H11 rfl rfl d8_83 rfl ?_
        refine o_laload H11 (i / 64) (.long (ws.getD (i / 64) 0)) A0 (own_div hp) (own_get hk) d8_84 rfl ?_
        refine o_lconst H11 (1 : Int64) rfl d8_85 rfl ?_
        refine o_iload H11 rfl d8_86 rfl ?_
        refine o_lshl H11 d8_88 rfl ?_
        refine o_ldcJ H11 (-1 : Int64) (w40 hw) d8_89 rfl ?_
        refine o_lxor H11 d8_92 rfl ?_
        refine o_land H11 d8_93 rfl ?_
        refine o_lastore H11 (i / 64) A0 (own_div hp) (by rw [List.length_map]; exact hk) g_w0 d8_94 rfl ?_
        intro T13 h13 H13 W13 A13
        have f14 := E_a1.wr W13
        have f15 := FL.other W13 (Or.inl (Ne.symm nwa))
        have f16 := AL.other W13 (Ne.symm nwl)
        refine o_iload H13 rfl d8_95 rfl ?_
        refine o_istoreN H13 (L' := #[.val (.ref a1), .val (.int p1), .val (.int (0 : Int32)), .val (.int (0 : Int32)), .val (.int p1), .val (.ref w0), .val (.int (0 : Int32))]) rfl d8_97 rfl ?_
        refine o_iinc H13 (1 : Int32) (1 : Int32) rfl (by decide) rfl (L' := #[.val (.ref a1), .val (.int p1), .val (.int (0 : Int32)), .val (.int (1 : Int32)), .val (.int p1), .val (.ref w0), .val (.int (0 : Int32))]) rfl d8_98 rfl ?_
        refine o_iload H13 rfl d8_101 rfl ?_
        refine o_bipush H13 (64 : Int32) rfl d8_103 rfl ?_
        refine o_idiv H13 (by decide) d8_105 rfl ?_
        refine o_istore H13 (L' := #[.val (.ref a1), .val (.int p1), .val (.int (0 : Int32)), .val (.int (1 : Int32)), .val (.int (p1 / (64 : Int32))), .val (.ref w0), .val (.int (0 : Int32))]) rfl d8_106 rfl ?_
        refine o_goto H13 d8_108 (pt := 33) (by decide) (by decide) ?_
        refine o_iloadN H13 rfl d8_33 rfl ?_
        refine o_if_t H13 d8_34 (by decide) (pt := 111) (by decide) (by decide) ?_
        have A9 := A13
        rw [← List.map_set] at A9
        have hup2 : (rest = [] ∧ (ws.set (i / 64) (ws.getD (i / 64) 0 &&& (((1 : Int64) <<< (p1.toInt64 &&& 63)) ^^^ (-1 : Int64)))).length = 1) ∨ ∃ (w1 : Addr) (rest' : List Value), rest = .ref w1 :: rest' ∧ w1 ≠ w0 ∧ oA .long Z h13 w1 ((List.replicate (((ws.set (i / 64) (ws.getD (i / 64) 0 &&& (((1 : Int64) <<< (p1.toInt64 &&& 63)) ^^^ (-1 : Int64)))).length + 63) / 64) (0 : Int64)).map Value.long) := by
          rw [List.length_set]
          rcases hup with q | ⟨w1, rest', q1, q2, q3⟩
          · exact Or.inl q
          · exact Or.inr ⟨w1, rest', q1, q2, q3.other W13 q2⟩
        exact o_return H13 rfl d8_111 (by decide) (by decide) ⟨rfl, ws.set (i / 64) (ws.getD (i / 64) 0 &&& (((1 : Int64) <<< (p1.toInt64 &&& 63)) ^^^ (-1 : Int64))), ⟨la, _, f14, g_a1, f15, f16, Or.inr ⟨w0, rest, rfl, by intro q; exact hne (by simpa using q), A9, g_w0, nwa, nwl, hup2⟩⟩, by rw [List.length_set]; omega, fun j => own_andn hp hk j⟩
      · intro c66_12
        exact absurd c66_12 (own_full hs _)
theorem d10_0 : decode prog_62_method_7_code 0 = .ok (.aload_n 0, 1) := by decide +kernel
theorem d10_1 : decode prog_62_method_7_code 1 = .ok (.getfield 11, 3) := by decide +kernel
theorem d10_4 : decode prog_62_method_7_code 4 = .ok (.iload_n 1, 1) := by decide +kernel
theorem d10_5 : decode prog_62_method_7_code 5 = .ok (.aaload, 1) := by decide +kernel
theorem d10_6 : decode prog_62_method_7_code 6 = .ok (.astore_n 3, 1) := by decide +kernel
theorem d10_7 : decode prog_62_method_7_code 7 = .ok (.iload_n 2, 1) := by decide +kernel
theorem d10_8 : decode prog_62_method_7_code 8 = .ok (.bipush 64, 2) := by decide +kernel
theorem d10_10 : decode prog_62_method_7_code 10 = .ok (.idiv, 1) := by decide +kernel
theorem d10_11 : decode prog_62_method_7_code 11 = .ok (.istore 4, 2) := by decide +kernel
theorem d10_13 : decode prog_62_method_7_code 13 = .ok (.iload 4, 2) := by decide +kernel
theorem d10_15 : decode prog_62_method_7_code 15 = .ok (.aload_n 3, 1) := by decide +kernel
theorem d10_16 : decode prog_62_method_7_code 16 = .ok (.arraylength, 1) := by decide +kernel
theorem d10_17 : decode prog_62_method_7_code 17 = .ok (.if_icmp .lt 9, 3) := by decide +kernel
theorem d10_20 : decode prog_62_method_7_code 20 = .ok (.iload_n 2, 1) := by decide +kernel
theorem d10_21 : decode prog_62_method_7_code 21 = .ok (.istore 5, 2) := by decide +kernel
theorem d10_23 : decode prog_62_method_7_code 23 = .ok (.goto 118, 3) := by decide +kernel
theorem d10_26 : decode prog_62_method_7_code 26 = .ok (.aload_n 3, 1) := by decide +kernel
theorem d10_27 : decode prog_62_method_7_code 27 = .ok (.iload 4, 2) := by decide +kernel
theorem d10_29 : decode prog_62_method_7_code 29 = .ok (.laload, 1) := by decide +kernel
theorem d10_30 : decode prog_62_method_7_code 30 = .ok (.ldc2_w 29, 3) := by decide +kernel
theorem d10_33 : decode prog_62_method_7_code 33 = .ok (.lxor, 1) := by decide +kernel
theorem d10_34 : decode prog_62_method_7_code 34 = .ok (.ldc2_w 29, 3) := by decide +kernel
theorem d10_37 : decode prog_62_method_7_code 37 = .ok (.iload_n 2, 1) := by decide +kernel
theorem d10_38 : decode prog_62_method_7_code 38 = .ok (.lshl, 1) := by decide +kernel
theorem d10_39 : decode prog_62_method_7_code 39 = .ok (.land, 1) := by decide +kernel
theorem d10_40 : decode prog_62_method_7_code 40 = .ok (.lconst 0, 1) := by decide +kernel
theorem d10_41 : decode prog_62_method_7_code 41 = .ok (.lcmp, 1) := by decide +kernel
theorem d10_42 : decode prog_62_method_7_code 42 = .ok (.ifCond .eq 31, 3) := by decide +kernel
theorem d10_45 : decode prog_62_method_7_code 45 = .ok (.iload 4, 2) := by decide +kernel
theorem d10_47 : decode prog_62_method_7_code 47 = .ok (.bipush 64, 2) := by decide +kernel
theorem d10_49 : decode prog_62_method_7_code 49 = .ok (.imul, 1) := by decide +kernel
theorem d10_50 : decode prog_62_method_7_code 50 = .ok (.aload_n 3, 1) := by decide +kernel
theorem d10_51 : decode prog_62_method_7_code 51 = .ok (.iload 4, 2) := by decide +kernel
theorem d10_53 : decode prog_62_method_7_code 53 = .ok (.laload, 1) := by decide +kernel
theorem d10_54 : decode prog_62_method_7_code 54 = .ok (.ldc2_w 29, 3) := by decide +kernel
theorem d10_57 : decode prog_62_method_7_code 57 = .ok (.lxor, 1) := by decide +kernel
theorem d10_58 : decode prog_62_method_7_code 58 = .ok (.ldc2_w 29, 3) := by decide +kernel
theorem d10_61 : decode prog_62_method_7_code 61 = .ok (.iload_n 2, 1) := by decide +kernel
theorem d10_62 : decode prog_62_method_7_code 62 = .ok (.lshl, 1) := by decide +kernel
theorem d10_63 : decode prog_62_method_7_code 63 = .ok (.land, 1) := by decide +kernel
theorem d10_64 : decode prog_62_method_7_code 64 = .ok (.invokestatic 36, 3) := by decide +kernel
theorem d10_67 : decode prog_62_method_7_code 67 = .ok (.iadd, 1) := by decide +kernel
theorem d10_68 : decode prog_62_method_7_code 68 = .ok (.istore 5, 2) := by decide +kernel
theorem d10_70 : decode prog_62_method_7_code 70 = .ok (.goto 71, 3) := by decide +kernel
theorem d10_73 : decode prog_62_method_7_code 73 = .ok (.iload_n 1, 1) := by decide +kernel
theorem d10_74 : decode prog_62_method_7_code 74 = .ok (.iconst 1, 1) := by decide +kernel
theorem d10_75 : decode prog_62_method_7_code 75 = .ok (.iadd, 1) := by decide +kernel
theorem d10_76 : decode prog_62_method_7_code 76 = .ok (.aload_n 0, 1) := by decide +kernel
theorem d10_77 : decode prog_62_method_7_code 77 = .ok (.getfield 11, 3) := by decide +kernel
theorem d10_80 : decode prog_62_method_7_code 80 = .ok (.arraylength, 1) := by decide +kernel
theorem d10_81 : decode prog_62_method_7_code 81 = .ok (.if_icmp .ne 13, 3) := by decide +kernel
theorem d10_84 : decode prog_62_method_7_code 84 = .ok (.aload_n 3, 1) := by decide +kernel
theorem d10_85 : decode prog_62_method_7_code 85 = .ok (.arraylength, 1) := by decide +kernel
theorem d10_86 : decode prog_62_method_7_code 86 = .ok (.bipush 64, 2) := by decide +kernel
theorem d10_88 : decode prog_62_method_7_code 88 = .ok (.imul, 1) := by decide +kernel
theorem d10_89 : decode prog_62_method_7_code 89 = .ok (.istore 5, 2) := by decide +kernel
theorem d10_91 : decode prog_62_method_7_code 91 = .ok (.goto 50, 3) := by decide +kernel
theorem d10_94 : decode prog_62_method_7_code 94 = .ok (.aload_n 0, 1) := by decide +kernel
theorem d10_95 : decode prog_62_method_7_code 95 = .ok (.iload_n 1, 1) := by decide +kernel
theorem d10_96 : decode prog_62_method_7_code 96 = .ok (.iconst 1, 1) := by decide +kernel
theorem d10_97 : decode prog_62_method_7_code 97 = .ok (.iadd, 1) := by decide +kernel
theorem d10_98 : decode prog_62_method_7_code 98 = .ok (.iload 4, 2) := by decide +kernel
theorem d10_100 : decode prog_62_method_7_code 100 = .ok (.iconst 1, 1) := by decide +kernel
theorem d10_101 : decode prog_62_method_7_code 101 = .ok (.iadd, 1) := by decide +kernel
theorem d10_102 : decode prog_62_method_7_code 102 = .ok (.invokevirtual 17, 3) := by decide +kernel
theorem d10_105 : decode prog_62_method_7_code 105 = .ok (.istore 6, 2) := by decide +kernel
theorem d10_107 : decode prog_62_method_7_code 107 = .ok (.iload 6, 2) := by decide +kernel
theorem d10_109 : decode prog_62_method_7_code 109 = .ok (.aload_n 3, 1) := by decide +kernel
theorem d10_110 : decode prog_62_method_7_code 110 = .ok (.arraylength, 1) := by decide +kernel
theorem d10_111 : decode prog_62_method_7_code 111 = .ok (.if_icmp .lt 11, 3) := by decide +kernel
theorem d10_114 : decode prog_62_method_7_code 114 = .ok (.aload_n 3, 1) := by decide +kernel
theorem d10_115 : decode prog_62_method_7_code 115 = .ok (.arraylength, 1) := by decide +kernel
theorem d10_116 : decode prog_62_method_7_code 116 = .ok (.bipush 64, 2) := by decide +kernel
theorem d10_118 : decode prog_62_method_7_code 118 = .ok (.imul, 1) := by decide +kernel
theorem d10_119 : decode prog_62_method_7_code 119 = .ok (.goto 20, 3) := by decide +kernel
theorem d10_122 : decode prog_62_method_7_code 122 = .ok (.iload 6, 2) := by decide +kernel
theorem d10_124 : decode prog_62_method_7_code 124 = .ok (.bipush 64, 2) := by decide +kernel
theorem d10_126 : decode prog_62_method_7_code 126 = .ok (.imul, 1) := by decide +kernel
theorem d10_127 : decode prog_62_method_7_code 127 = .ok (.aload_n 3, 1) := by decide +kernel
theorem d10_128 : decode prog_62_method_7_code 128 = .ok (.iload 6, 2) := by decide +kernel
theorem d10_130 : decode prog_62_method_7_code 130 = .ok (.laload, 1) := by decide +kernel
theorem d10_131 : decode prog_62_method_7_code 131 = .ok (.ldc2_w 29, 3) := by decide +kernel
theorem d10_134 : decode prog_62_method_7_code 134 = .ok (.lxor, 1) := by decide +kernel
theorem d10_135 : decode prog_62_method_7_code 135 = .ok (.invokestatic 36, 3) := by decide +kernel
theorem d10_138 : decode prog_62_method_7_code 138 = .ok (.iadd, 1) := by decide +kernel
theorem d10_139 : decode prog_62_method_7_code 139 = .ok (.istore 5, 2) := by decide +kernel
theorem d10_141 : decode prog_62_method_7_code 141 = .ok (.iload 5, 2) := by decide +kernel
theorem d10_143 : decode prog_62_method_7_code 143 = .ok (.ireturn, 1) := by decide +kernel
theorem pn10 : plainFor (⟨"com/example/following_sibling/followingsibling/MarkedIndexes", "nextClear", "(II)I"⟩ : MethodName) = true := plainFor_of_name (by first | (simp [plainName, overriddenIn]; done) | decide +kernel)
theorem pd10 : parseMethodDescriptor "(II)I" = some ⟨[.int, .int], some .int⟩ := by decide +kernel
set_option maxRecDepth 65536 in
set_option maxHeartbeats 40000000 in
theorem rm10_1 (l : Launch) (Z : State) (a0 : Array Value) (hw : ∀ d ∈ tables_1, d.before a0 Z = true) (a1 : Addr) (p2 : Int32) (la w0 w1 : Addr) (rest : List Value) (n1 i : Nat) (h0 : Heap) (n0 : Nat) (Z0 : n0 ≤ h0.size) (E_a1 : Exa Z h0 a1 "com/example/following_sibling/followingsibling/MarkedIndexes") (FL : Fld Z h0 a1 "com/example/following_sibling/followingsibling/MarkedIndexes" "levels" "[[J" (.ref la)) (AL : oA (.array .long) Z h0 la (.ref w0 :: .ref w1 :: rest)) (A1 : oA .long Z h0 w1 ((List.replicate n1 (0 : Int64)).map Value.long)) (hn1 : n1 ≤ 10000) (hp : p2.toInt = (i : Int)) (hi : i < 400000) :
    oC l Z n0 (⟨"com/example/following_sibling/followingsibling/MarkedIndexes", "nextClear", "(II)I"⟩ : MethodName) prog_62_method_7_code 7 (some .int) ({ frames := 2, cells := 0, slots := 0, locals := 34 } : Room) 0 0 #[(.ref a1), (.int (1 : Int32)), (.int p2)] h0 (fun v h => v = some (.int p2) ∧ h0 = h) := by
  refine oC.of (L := #[.val (.ref a1), .val (.int (1 : Int32)), .val (.int p2), .unset, .unset, .unset, .unset]) pn10 Z0 (fun m => by first | (simp [entryFrame, mkF, argsToLocals, Value.category]; done) | rfl) ?_
  intro p e s m below meth c T H
  refine o_aloadN H rfl rfl d10_0 rfl ?_
  refine o_getF H (host := "") (Or.inl (w12 hw)) FL d10_1 rfl ?_
  intro T1 H2
  refine o_iloadN H2 rfl d10_4 rfl ?_
  refine o_aaload H2 1 (.ref w1) AL rfl (by decide) rfl d10_5 rfl ?_
  refine o_astoreN H2 (L' := #[.val (.ref a1), .val (.int (1 : Int32)), .val (.int p2), .val (.ref w1), .unset, .unset, .unset]) rfl rfl d10_6 rfl ?_
  refine o_iloadN H2 rfl d10_7 rfl ?_
  refine o_bipush H2 (64 : Int32) rfl d10_8 rfl ?_
  refine o_idiv H2 (by decide) d10_10 rfl ?_
  refine o_istore H2 (L' := #[.val (.ref a1), .val (.int (1 : Int32)), .val (.int p2), .val (.ref w1), .val (.int (p2 / (64 : Int32))), .unset, .unset]) rfl d10_11 rfl ?_
  refine o_iload H2 rfl d10_13 rfl ?_
  refine o_aloadN H2 rfl rfl d10_15 rfl ?_
  refine o_arraylength H2 (n1.toInt32) A1 (by rw [List.length_map, List.length_replicate]) d10_16 rfl ?_
  refine o_icmp_lt H2 d10_17 (pt := 26) (by decide) (by decide) rfl ?_ ?_
  · intro c17_3
    have hk : i / 64 < n1 := (own_inx (own_div hp) (own_nl (by omega))).mp c17_3
    refine o_aloadN H2 rfl rfl d10_26 rfl ?_
    refine o_iload H2 rfl d10_27 rfl ?_
    refine o_laload H2 (i / 64) (.long (0 : Int64)) A1 (own_div hp) (own_rep hk) d10_29 rfl ?_
    refine o_ldcJ H2 (-1 : Int64) (w40 hw) d10_30 rfl ?_
    refine o_lxor H2 d10_33 rfl ?_
    refine o_ldcJ H2 (-1 : Int64) (w40 hw) d10_34 rfl ?_
    refine o_iloadN H2 rfl d10_37 rfl ?_
    refine o_lshl H2 d10_38 rfl ?_
    refine o_land H2 d10_39 rfl ?_
    refine o_lconst H2 (0 : Int64) rfl d10_40 rfl ?_
    refine o_lcmp H2 d10_41 rfl ?_
    refine o_ifl_eq H2 d10_42 (pt := 73) (by decide) (by decide) rfl ?_ ?_
    · intro c42_4
      exact absurd c42_4 (own_l1n hp)
    · intro c42_4
      refine o_iload H2 rfl d10_45 rfl ?_
      refine o_bipush H2 (64 : Int32) rfl d10_47 rfl ?_
      refine o_imul H2 d10_49 rfl ?_
      refine o_aloadN H2 rfl rfl d10_50 rfl ?_
      refine o_iload H2 rfl d10_51 rfl ?_
      refine o_laload H2 (i / 64) (.long (0 : Int64)) A1 (own_div hp) (own_rep hk) d10_53 rfl ?_
      refine o_ldcJ H2 (-1 : Int64) (w40 hw) d10_54 rfl ?_
      refine o_lxor H2 d10_57 rfl ?_
      refine o_ldcJ H2 (-1 : Int64) (w40 hw) d10_58 rfl ?_
      refine o_iloadN H2 rfl d10_61 rfl ?_
      refine o_lshl H2 d10_62 rfl ?_
      refine o_land H2 d10_63 rfl ?_
      refine o_static H2 [(.long (((0 : Int64) ^^^ (-1 : Int64)) &&& ((-1 : Int64) <<< (p2.toInt64 &&& 63))))] [(.int ((p2 / (64 : Int32)) * (64 : Int32)))] ((rm11 l Z a0 hw (((0 : Int64) ^^^ (-1 : Int64)) &&& ((-1 : Int64) <<< (p2.toInt64 &&& 63))) h0 n0 H2.le).mono (fun v h q => (⟨q.1.trans (congrArg (fun z => some (Value.int z)) (ntz64 (a := (((0 : Int64) ^^^ (-1 : Int64)) &&& ((-1 : Int64) <<< (p2.toInt64 &&& 63)))) (own_l1z hp))), q.2⟩ : v = some (.int (Int32.ofNat (i % 64))) ∧ h0 = h))) (w55 hw) (w56 hw) (w57 hw) (w58 hw) (by decide) (lenOf pd11 rfl) rfl rfl (by decide) (Nat.le_of_ble_eq_true rfl) (by decide) (by decide) d10_64 rfl ?_
      intro T5 v5 h5 H5 q5
      obtain ⟨rfl, rfl⟩ := q5
      show oG p e below s n0 _ _ _ (T5.setTop (mkF m 67 #[.val (.ref a1), .val (.int (1 : Int32)), .val (.int p2), .val (.ref w1), .val (.int (p2 / (64 : Int32))), .unset, .unset] [(.int (Int32.ofNat (i % 64))), (.int ((p2 / (64 : Int32)) * (64 : Int32)))]))
      refine o_iadd H5 d10_67 rfl ?_
      refine o_istore H5 (L' := #[.val (.ref a1), .val (.int (1 : Int32)), .val (.int p2), .val (.ref w1), .val (.int (p2 / (64 : Int32))), .val (.int (((p2 / (64 : Int32)) * (64 : Int32)) + (Int32.ofNat (i % 64)))), .unset]) rfl d10_68 rfl ?_
      refine o_goto H5 d10_70 (pt := 141) (by decide) (by decide) ?_
      refine o_iload H5 rfl d10_141 rfl ?_
      exact o_ireturn H5 rfl d10_143 (by decide) (by decide) ⟨congrArg (fun z => some (Value.int z)) (by rw [n_eq, own_add (own_m64 (own_div hp) (by omega)) (o_ofNat (n := i % 64) (by omega)) (by omega), hp]; omega), rfl⟩
  · intro c17_3
    refine o_iloadN H2 rfl d10_20 rfl ?_
    refine o_istore H2 (L' := #[.val (.ref a1), .val (.int (1 : Int32)), .val (.int p2), .val (.ref w1), .val (.int (p2 / (64 : Int32))), .val (.int p2), .unset]) rfl d10_21 rfl ?_
    refine o_goto H2 d10_23 (pt := 141) (by decide) (by decide) ?_
    refine o_iload H2 rfl d10_141 rfl ?_
    exact o_ireturn H2 rfl d10_143 (by decide) (by decide) ⟨rfl, rfl⟩
set_option maxRecDepth 65536 in
set_option maxHeartbeats 40000000 in
theorem rm10_0 (l : Launch) (Z : State) (a0 : Array Value) (hw : ∀ d ∈ tables_1, d.before a0 Z = true) (a1 : Addr) (p2 : Int32) (ws : List Int64) (i a b c0 : Nat) (h0 : Heap) (n0 : Nat) (Z0 : n0 ≤ h0.size) (MM : own_M Z h0 n0 a1 ws) (hp : p2.toInt = (i : Int)) (hi : i < 400000) (hn0 : ws.length ≤ 1024) (hs : own_sub ws a b c0) (hne0 : ws ≠ []) :
    oC l Z n0 (⟨"com/example/following_sibling/followingsibling/MarkedIndexes", "nextClear", "(II)I"⟩ : MethodName) prog_62_method_7_code 7 (some .int) ({ frames := 3, cells := 0, slots := 0, locals := 54 } : Room) 0 0 #[(.ref a1), (.int (0 : Int32)), (.int p2)] h0 (fun v h => ∃ r, v = some (.int r) ∧ (∃ q : Nat, r.toInt = (q : Int) ∧ own_next (own_P ws) i q) ∧ h0 = h) := by
  refine oC.of (L := #[.val (.ref a1), .val (.int (0 : Int32)), .val (.int p2), .unset, .unset, .unset, .unset]) pn10 Z0 (fun m => by first | (simp [entryFrame, mkF, argsToLocals, Value.category]; done) | rfl) ?_
  intro p e s m below meth c T H
  have MM0 := MM
  obtain ⟨la, vs, E_a1, g_a1, FL, AL, hc⟩ := MM
  rcases hc with ⟨rfl, rfl⟩ | ⟨w0, rest, rfl, hne, A0, g_w0, nwa, nwl, hup⟩
  · exact absurd rfl hne0
  · have hL := o_len1 AL
    have hn := own_nl (n := ws.length) (by omega)
    have hm := own_m64 hn (by omega)
    refine o_aloadN H rfl rfl d10_0 rfl ?_
    refine o_getF H (host := "") (Or.inl (w12 hw)) FL d10_1 rfl ?_
    intro T1 H2
    refine o_iloadN H2 rfl d10_4 rfl ?_
    refine o_aaload H2 0 (.ref w0) AL rfl (by decide) rfl d10_5 rfl ?_
    refine o_astoreN H2 (L' := #[.val (.ref a1), .val (.int (0 : Int32)), .val (.int p2), .val (.ref w0), .unset, .unset, .unset]) rfl rfl d10_6 rfl ?_
    refine o_iloadN H2 rfl d10_7 rfl ?_
    refine o_bipush H2 (64 : Int32) rfl d10_8 rfl ?_
    refine o_idiv H2 (by decide) d10_10 rfl ?_
    refine o_istore H2 (L' := #[.val (.ref a1), .val (.int (0 : Int32)), .val (.int p2), .val (.ref w0), .val (.int (p2 / (64 : Int32))), .unset, .unset]) rfl d10_11 rfl ?_
    refine o_iload H2 rfl d10_13 rfl ?_
    refine o_aloadN H2 rfl rfl d10_15 rfl ?_
    refine o_arraylength H2 (ws.length.toInt32) A0 (by rw [List.length_map]) d10_16 rfl ?_
    refine o_icmp_lt H2 d10_17 (pt := 26) (by decide) (by decide) rfl ?_ ?_
    · intro c17_3
      have hk : i / 64 < ws.length := (own_inx (own_div hp) hn).mp c17_3
      refine o_aloadN H2 rfl rfl d10_26 rfl ?_
      refine o_iload H2 rfl d10_27 rfl ?_
      refine o_laload H2 (i / 64) (.long (ws.getD (i / 64) 0)) A0 (own_div hp) (own_get hk) d10_29 rfl ?_
      refine o_ldcJ H2 (-1 : Int64) (w40 hw) d10_30 rfl ?_
      refine o_lxor H2 d10_33 rfl ?_
      refine o_ldcJ H2 (-1 : Int64) (w40 hw) d10_34 rfl ?_
      refine o_iloadN H2 rfl d10_37 rfl ?_
      refine o_lshl H2 d10_38 rfl ?_
      refine o_land H2 d10_39 rfl ?_
      refine o_lconst H2 (0 : Int64) rfl d10_40 rfl ?_
      refine o_lcmp H2 d10_41 rfl ?_
      refine o_ifl_eq H2 d10_42 (pt := 73) (by decide) (by decide) rfl ?_ ?_
      · intro c42_4
        have hv := c42_4
        rcases hup with ⟨rfl, hu⟩ | ⟨w1, rest', rfl, nw1, A1⟩
        · skip
          refine o_iloadN H2 rfl d10_73 rfl ?_
          refine o_iconst H2 (1 : Int32) rfl d10_74 rfl ?_
          refine o_iadd H2 d10_75 rfl ?_
          refine o_fold (1 : Int32) (by decide) ?_
          refine o_aloadN H2 rfl rfl d10_76 rfl ?_
          refine o_getF H2 (host := "") (Or.inl (w12 hw)) FL d10_77 rfl ?_
          intro T5 H6
          refine o_arraylength H6 (1 : Int32) AL rfl d10_80 rfl ?_
          refine o_icmp_f H6 d10_81 (XT.ii_ne_f rfl) rfl ?_
          refine o_aloadN H6 rfl rfl d10_84 rfl ?_
          refine o_arraylength H6 (ws.length.toInt32) A0 (by rw [List.length_map]) d10_85 rfl ?_
          refine o_bipush H6 (64 : Int32) rfl d10_86 rfl ?_
          refine o_imul H6 d10_88 rfl ?_
          refine o_istore H6 (L' := #[.val (.ref a1), .val (.int (0 : Int32)), .val (.int p2), .val (.ref w0), .val (.int (p2 / (64 : Int32))), .val (.int ((ws.length.toInt32) * (64 : Int32))), .unset]) rfl d10_89 rfl ?_
          refine o_goto H6 d10_91 (pt := 141) (by decide) (by decide) ?_
          refine o_iload H6 rfl d10_141 rfl ?_
          exact o_ireturn H6 rfl d10_143 (by decide) (by decide) ⟨_, rfl, ⟨_, hm, (own_n2 hp hv (by omega))⟩, rfl⟩
        · have hq := own_p1 (own_div hp) (by omega)
          refine o_iloadN H2 rfl d10_73 rfl ?_
          refine o_iconst H2 (1 : Int32) rfl d10_74 rfl ?_
          refine o_iadd H2 d10_75 rfl ?_
          refine o_fold (1 : Int32) (by decide) ?_
          refine o_aloadN H2 rfl rfl d10_76 rfl ?_
          refine o_getF H2 (host := "") (Or.inl (w12 hw)) FL d10_77 rfl ?_
          intro T7 H8
          refine o_arraylength H8 ((Value.ref w0 :: Value.ref w1 :: rest').length.toInt32) AL rfl d10_80 rfl ?_
          refine o_icmp_t H8 d10_81 (XT.ii_ne_t (by rw [n_eq, hL.2]; have e1 : (1 : Int32).toInt = 1 := rfl; rw [e1, List.length_cons]; omega)) (pt := 94) (by decide) (by decide) ?_
          refine o_aloadN H8 rfl rfl d10_94 rfl ?_
          refine o_iloadN H8 rfl d10_95 rfl ?_
          refine o_iconst H8 (1 : Int32) rfl d10_96 rfl ?_
          refine o_iadd H8 d10_97 rfl ?_
          refine o_fold (1 : Int32) (by decide) ?_
          refine o_iload H8 rfl d10_98 rfl ?_
          refine o_iconst H8 (1 : Int32) rfl d10_100 rfl ?_
          refine o_iadd H8 d10_101 rfl ?_
          refine o_private (zq := (⟨"com/example/following_sibling/followingsibling/MarkedIndexes", "mark", "(I)V"⟩ : MethodName)) H8 [(.int (1 : Int32)), (.int ((p2 / (64 : Int32)) + (1 : Int32)))] [] (rm10_1 l Z a0 hw a1 ((p2 / (64 : Int32)) + (1 : Int32)) la w0 w1 rest' ((ws.length + 63) / 64) (i / 64 + 1) h0 n0 H8.le E_a1 FL AL A1 (by omega) hq (by omega)) E_a1 (w51 hw) (w53 hw) (w17 hw) rfl (w52 hw) (w3 hw) (w54 hw) (by decide) (lenOf pd10 rfl) rfl rfl (by decide) (Nat.le_of_ble_eq_true rfl) (by decide) (by decide) d10_102 rfl ?_
          intro T9 v9 h9 H9 q9
          obtain ⟨rfl, rfl⟩ := q9
          show oG p e below s n0 _ _ _ (T9.setTop (mkF m 105 #[.val (.ref a1), .val (.int (0 : Int32)), .val (.int p2), .val (.ref w0), .val (.int (p2 / (64 : Int32))), .unset, .unset] [(.int ((p2 / (64 : Int32)) + (1 : Int32)))]))
          refine o_istore H9 (L' := #[.val (.ref a1), .val (.int (0 : Int32)), .val (.int p2), .val (.ref w0), .val (.int (p2 / (64 : Int32))), .unset, .val (.int ((p2 / (64 : Int32)) + (1 : Int32)))]) rfl d10_105 rfl ?_
          refine o_iload H9 rfl d10_107 rfl ?_
          refine o_aloadN H9 rfl rfl d10_109 rfl ?_
          refine o_arraylength H9 (ws.length.toInt32) A0 (by rw [List.length_map]) d10_110 rfl ?_
          refine o_icmp_lt H9 d10_111 (pt := 122) (by decide) (by decide) rfl ?_ ?_
          · intro c111_10
            have hk2 : i / 64 + 1 < ws.length := (own_inx hq hn).mp c111_10
            obtain ⟨t, ht, hl⟩ := own_zero (own_xn (own_full hs (i / 64 + 1)))
            refine o_iload H9 rfl d10_122 rfl ?_
            refine o_bipush H9 (64 : Int32) rfl d10_124 rfl ?_
            refine o_imul H9 d10_126 rfl ?_
            refine o_aloadN H9 rfl rfl d10_127 rfl ?_
            refine o_iload H9 rfl d10_128 rfl ?_
            refine o_laload H9 (i / 64 + 1) (.long (ws.getD (i / 64 + 1) 0)) A0 hq (own_get hk2) d10_130 rfl ?_
            refine o_ldcJ H9 (-1 : Int64) (w40 hw) d10_131 rfl ?_
            refine o_lxor H9 d10_134 rfl ?_
            refine o_static H9 [(.long ((ws.getD (i / 64 + 1) 0) ^^^ (-1 : Int64)))] [(.int (((p2 / (64 : Int32)) + (1 : Int32)) * (64 : Int32)))] ((rm11 l Z a0 hw ((ws.getD (i / 64 + 1) 0) ^^^ (-1 : Int64)) h0 n0 H9.le).mono (fun v h q => (⟨q.1.trans (congrArg (fun z => some (Value.int z)) (ntz64 (a := ((ws.getD (i / 64 + 1) 0) ^^^ (-1 : Int64))) hl)), q.2⟩ : v = some (.int (Int32.ofNat t)) ∧ h0 = h))) (w55 hw) (w56 hw) (w57 hw) (w58 hw) (by decide) (lenOf pd11 rfl) rfl rfl (by decide) (Nat.le_of_ble_eq_true rfl) (by decide) (by decide) d10_135 rfl ?_
            intro T11 v11 h11 H11 q11
            obtain ⟨rfl, rfl⟩ := q11
            show oG p e below s n0 _ _ _ (T11.setTop (mkF m 138 #[.val (.ref a1), .val (.int (0 : Int32)), .val (.int p2), .val (.ref w0), .val (.int (p2 / (64 : Int32))), .unset, .val (.int ((p2 / (64 : Int32)) + (1 : Int32)))] [(.int (Int32.ofNat t)), (.int (((p2 / (64 : Int32)) + (1 : Int32)) * (64 : Int32)))]))
            refine o_iadd H11 d10_138 rfl ?_
            refine o_istore H11 (L' := #[.val (.ref a1), .val (.int (0 : Int32)), .val (.int p2), .val (.ref w0), .val (.int (p2 / (64 : Int32))), .val (.int ((((p2 / (64 : Int32)) + (1 : Int32)) * (64 : Int32)) + (Int32.ofNat t))), .val (.int ((p2 / (64 : Int32)) + (1 : Int32)))]) rfl d10_139 rfl ?_
            refine o_iload H11 rfl d10_141 rfl ?_
            exact o_ireturn H11 rfl d10_143 (by decide) (by decide) ⟨_, rfl, ⟨_, (own_add (own_m64 hq (by omega)) (o_ofNat (n := t) (by omega)) (by omega)), (own_n3 hp hv hl ht)⟩, rfl⟩
          · intro c111_10
            refine o_aloadN H9 rfl rfl d10_114 rfl ?_
            refine o_arraylength H9 (ws.length.toInt32) A0 (by rw [List.length_map]) d10_115 rfl ?_
            refine o_bipush H9 (64 : Int32) rfl d10_116 rfl ?_
            refine o_imul H9 d10_118 rfl ?_
            refine o_goto H9 d10_119 (pt := 139) (by decide) (by decide) ?_
            refine o_istore H9 (L' := #[.val (.ref a1), .val (.int (0 : Int32)), .val (.int p2), .val (.ref w0), .val (.int (p2 / (64 : Int32))), .val (.int ((ws.length.toInt32) * (64 : Int32))), .val (.int ((p2 / (64 : Int32)) + (1 : Int32)))]) rfl d10_139 rfl ?_
            refine o_iload H9 rfl d10_141 rfl ?_
            exact o_ireturn H9 rfl d10_143 (by decide) (by decide) ⟨_, rfl, ⟨_, hm, (own_n2 hp hv (by have q := c111_10; rw [own_inx hq hn] at q; omega))⟩, rfl⟩
      · intro c42_4
        obtain ⟨t, ht, hl⟩ := own_zero c42_4
        refine o_iload H2 rfl d10_45 rfl ?_
        refine o_bipush H2 (64 : Int32) rfl d10_47 rfl ?_
        refine o_imul H2 d10_49 rfl ?_
        refine o_aloadN H2 rfl rfl d10_50 rfl ?_
        refine o_iload H2 rfl d10_51 rfl ?_
        refine o_laload H2 (i / 64) (.long (ws.getD (i / 64) 0)) A0 (own_div hp) (own_get hk) d10_53 rfl ?_
        refine o_ldcJ H2 (-1 : Int64) (w40 hw) d10_54 rfl ?_
        refine o_lxor H2 d10_57 rfl ?_
        refine o_ldcJ H2 (-1 : Int64) (w40 hw) d10_58 rfl ?_
        refine o_iloadN H2 rfl d10_61 rfl ?_
        refine o_lshl H2 d10_62 rfl ?_
        refine o_land H2 d10_63 rfl ?_
        refine o_static H2 [(.long (((ws.getD (i / 64) 0) ^^^ (-1 : Int64)) &&& ((-1 : Int64) <<< (p2.toInt64 &&& 63))))] [(.int ((p2 / (64 : Int32)) * (64 : Int32)))] ((rm11 l Z a0 hw (((ws.getD (i / 64) 0) ^^^ (-1 : Int64)) &&& ((-1 : Int64) <<< (p2.toInt64 &&& 63))) h0 n0 H2.le).mono (fun v h q => (⟨q.1.trans (congrArg (fun z => some (Value.int z)) (ntz64 (a := (((ws.getD (i / 64) 0) ^^^ (-1 : Int64)) &&& ((-1 : Int64) <<< (p2.toInt64 &&& 63)))) hl)), q.2⟩ : v = some (.int (Int32.ofNat t)) ∧ h0 = h))) (w55 hw) (w56 hw) (w57 hw) (w58 hw) (by decide) (lenOf pd11 rfl) rfl rfl (by decide) (Nat.le_of_ble_eq_true rfl) (by decide) (by decide) d10_64 rfl ?_
        intro T12 v12 h12 H12 q12
        obtain ⟨rfl, rfl⟩ := q12
        show oG p e below s n0 _ _ _ (T12.setTop (mkF m 67 #[.val (.ref a1), .val (.int (0 : Int32)), .val (.int p2), .val (.ref w0), .val (.int (p2 / (64 : Int32))), .unset, .unset] [(.int (Int32.ofNat t)), (.int ((p2 / (64 : Int32)) * (64 : Int32)))]))
        refine o_iadd H12 d10_67 rfl ?_
        refine o_istore H12 (L' := #[.val (.ref a1), .val (.int (0 : Int32)), .val (.int p2), .val (.ref w0), .val (.int (p2 / (64 : Int32))), .val (.int (((p2 / (64 : Int32)) * (64 : Int32)) + (Int32.ofNat t))), .unset]) rfl d10_68 rfl ?_
        refine o_goto H12 d10_70 (pt := 141) (by decide) (by decide) ?_
        refine o_iload H12 rfl d10_141 rfl ?_
        exact o_ireturn H12 rfl d10_143 (by decide) (by decide) ⟨_, rfl, ⟨_, (own_add (own_m64 (own_div hp) (by omega)) (o_ofNat (n := t) (by omega)) (by omega)), (own_n1 hp hl ht)⟩, rfl⟩
    · intro c17_3
      refine o_iloadN H2 rfl d10_20 rfl ?_
      refine o_istore H2 (L' := #[.val (.ref a1), .val (.int (0 : Int32)), .val (.int p2), .val (.ref w0), .val (.int (p2 / (64 : Int32))), .val (.int p2), .unset]) rfl d10_21 rfl ?_
      refine o_goto H2 d10_23 (pt := 141) (by decide) (by decide) ?_
      refine o_iload H2 rfl d10_141 rfl ?_
      exact o_ireturn H2 rfl d10_143 (by decide) (by decide) ⟨_, rfl, ⟨i, hp, (own_n0 (by have q := c17_3; rw [own_inx (own_div hp) hn] at q; omega))⟩, rfl⟩
theorem d9_0 : decode prog_62_method_2_code 0 = .ok (.aload_n 0, 1) := by decide +kernel
theorem d9_1 : decode prog_62_method_2_code 1 = .ok (.getfield 11, 3) := by decide +kernel
theorem d9_4 : decode prog_62_method_2_code 4 = .ok (.arraylength, 1) := by decide +kernel
theorem d9_5 : decode prog_62_method_2_code 5 = .ok (.ifCond .ne 7, 3) := by decide +kernel
theorem d9_8 : decode prog_62_method_2_code 8 = .ok (.iload_n 1, 1) := by decide +kernel
theorem d9_9 : decode prog_62_method_2_code 9 = .ok (.goto 9, 3) := by decide +kernel
theorem d9_12 : decode prog_62_method_2_code 12 = .ok (.aload_n 0, 1) := by decide +kernel
theorem d9_13 : decode prog_62_method_2_code 13 = .ok (.iconst 0, 1) := by decide +kernel
theorem d9_14 : decode prog_62_method_2_code 14 = .ok (.iload_n 1, 1) := by decide +kernel
theorem d9_15 : decode prog_62_method_2_code 15 = .ok (.invokevirtual 17, 3) := by decide +kernel
theorem d9_18 : decode prog_62_method_2_code 18 = .ok (.ireturn, 1) := by decide +kernel
theorem pn9 : plainFor (⟨"com/example/following_sibling/followingsibling/MarkedIndexes", "nextUnmarked", "(I)I"⟩ : MethodName) = true := plainFor_of_name (by first | (simp [plainName, overriddenIn]; done) | decide +kernel)
theorem pd9 : parseMethodDescriptor "(I)I" = some ⟨[.int], some .int⟩ := by decide +kernel
set_option maxRecDepth 65536 in
set_option maxHeartbeats 40000000 in
theorem rm9 (l : Launch) (Z : State) (a0 : Array Value) (hw : ∀ d ∈ tables_1, d.before a0 Z = true) (a1 : Addr) (p1 : Int32) (ws : List Int64) (i a b c0 : Nat) (h0 : Heap) (n0 : Nat) (Z0 : n0 ≤ h0.size) (MM : own_M Z h0 n0 a1 ws) (hp : p1.toInt = (i : Int)) (hi : i < 400000) (hn0 : ws.length ≤ 1024) (hs : own_sub ws a b c0) :
    oC l Z n0 (⟨"com/example/following_sibling/followingsibling/MarkedIndexes", "nextUnmarked", "(I)I"⟩ : MethodName) prog_62_method_2_code 2 (some .int) ({ frames := 4, cells := 0, slots := 0, locals := 74 } : Room) 0 0 #[(.ref a1), (.int p1)] h0 (fun v h => ∃ r, v = some (.int r) ∧ (∃ q : Nat, r.toInt = (q : Int) ∧ own_next (own_P ws) i q) ∧ h0 = h) := by
  refine oC.of (L := #[.val (.ref a1), .val (.int p1)]) pn9 Z0 (fun m => by first | (simp [entryFrame, mkF, argsToLocals, Value.category]; done) | rfl) ?_
  intro p e s m below meth c T H
  have MM0 := MM
  obtain ⟨la, vs, E_a1, g_a1, FL, AL, hc⟩ := MM
  rcases hc with ⟨rfl, rfl⟩ | ⟨w0, rest, rfl, hne, A0, g_w0, nwa, nwl, hup⟩
  · skip
    refine o_aloadN H rfl rfl d9_0 rfl ?_
    refine o_getF H (host := "") (Or.inl (w12 hw)) FL d9_1 rfl ?_
    intro T1 H2
    refine o_arraylength H2 (0 : Int32) AL rfl d9_4 rfl ?_
    refine o_if_f H2 d9_5 (by decide) rfl ?_
    refine o_iloadN H2 rfl d9_8 rfl ?_
    refine o_goto H2 d9_9 (pt := 18) (by decide) (by decide) ?_
    exact o_ireturn H2 rfl d9_18 (by decide) (by decide) ⟨_, rfl, ⟨i, hp, own_n0 (by simp)⟩, rfl⟩
  · have hL := o_len1 AL
    refine o_aloadN H rfl rfl d9_0 rfl ?_
    refine o_getF H (host := "") (Or.inl (w12 hw)) FL d9_1 rfl ?_
    intro T3 H4
    refine o_arraylength H4 ((Value.ref w0 :: rest).length.toInt32) AL rfl d9_4 rfl ?_
    refine o_if_t H4 d9_5 (XT.i0_ne_t (by rw [n_eq]; have := (n_lt _ _).mp hL.1; omega)) (pt := 12) (by decide) (by decide) ?_
    refine o_aloadN H4 rfl rfl d9_12 rfl ?_
    refine o_iconst H4 (0 : Int32) rfl d9_13 rfl ?_
    refine o_iloadN H4 rfl d9_14 rfl ?_
    refine o_private (zq := (⟨"com/example/following_sibling/followingsibling/MarkedIndexes", "mark", "(I)V"⟩ : MethodName)) H4 [(.int (0 : Int32)), (.int p1)] [] (rm10_0 l Z a0 hw a1 p1 ws i a b c0 h0 n0 H4.le MM0 hp hi hn0 hs hne) E_a1 (w51 hw) (w53 hw) (w17 hw) rfl (w52 hw) (w3 hw) (w54 hw) (by decide) (lenOf pd10 rfl) rfl rfl (by decide) (Nat.le_of_ble_eq_true rfl) (by decide) (by decide) d9_15 rfl ?_
    intro T5 v5 h5 H5 q5
    obtain ⟨r5, rfl, hr5, rfl⟩ := q5
    show oG p e below s n0 _ _ _ (T5.setTop (mkF m 18 #[.val (.ref a1), .val (.int p1)] [(.int r5)]))
    exact o_ireturn H5 rfl d9_18 (by decide) (by decide) ⟨_, rfl, hr5, rfl⟩
theorem d14_0 : decode method_2_code 0 = .ok (.iload_n 0, 1) := by decide +kernel
theorem d14_1 : decode method_2_code 1 = .ok (.iload 4, 2) := by decide +kernel
theorem d14_3 : decode method_2_code 3 = .ok (.if_icmp .ne 5, 3) := by decide +kernel
theorem d14_6 : decode method_2_code 6 = .ok (.iconst 0, 1) := by decide +kernel
theorem d14_7 : decode method_2_code 7 = .ok (.ireturn, 1) := by decide +kernel
theorem d14_8 : decode method_2_code 8 = .ok (.iload 5, 2) := by decide +kernel
theorem d14_10 : decode method_2_code 10 = .ok (.iconst 1, 1) := by decide +kernel
theorem d14_11 : decode method_2_code 11 = .ok (.iand, 1) := by decide +kernel
theorem d14_12 : decode method_2_code 12 = .ok (.ifCond .eq 8, 3) := by decide +kernel
theorem d14_15 : decode method_2_code 15 = .ok (.iload_n 0, 1) := by decide +kernel
theorem d14_16 : decode method_2_code 16 = .ok (.iload_n 1, 1) := by decide +kernel
theorem d14_17 : decode method_2_code 17 = .ok (.if_icmp .eq 27, 3) := by decide +kernel
theorem d14_20 : decode method_2_code 20 = .ok (.iload 5, 2) := by decide +kernel
theorem d14_22 : decode method_2_code 22 = .ok (.iconst 2, 1) := by decide +kernel
theorem d14_23 : decode method_2_code 23 = .ok (.iand, 1) := by decide +kernel
theorem d14_24 : decode method_2_code 24 = .ok (.ifCond .eq 8, 3) := by decide +kernel
theorem d14_27 : decode method_2_code 27 = .ok (.iload_n 0, 1) := by decide +kernel
theorem d14_28 : decode method_2_code 28 = .ok (.iload_n 2, 1) := by decide +kernel
theorem d14_29 : decode method_2_code 29 = .ok (.if_icmp .eq 15, 3) := by decide +kernel
theorem d14_32 : decode method_2_code 32 = .ok (.iload 5, 2) := by decide +kernel
theorem d14_34 : decode method_2_code 34 = .ok (.iconst 4, 1) := by decide +kernel
theorem d14_35 : decode method_2_code 35 = .ok (.iand, 1) := by decide +kernel
theorem d14_36 : decode method_2_code 36 = .ok (.ifCond .eq 12, 3) := by decide +kernel
theorem d14_39 : decode method_2_code 39 = .ok (.iload_n 0, 1) := by decide +kernel
theorem d14_40 : decode method_2_code 40 = .ok (.iload_n 3, 1) := by decide +kernel
theorem d14_41 : decode method_2_code 41 = .ok (.if_icmp .ne 7, 3) := by decide +kernel
theorem d14_44 : decode method_2_code 44 = .ok (.iconst 1, 1) := by decide +kernel
theorem d14_45 : decode method_2_code 45 = .ok (.goto 4, 3) := by decide +kernel
theorem d14_48 : decode method_2_code 48 = .ok (.iconst 0, 1) := by decide +kernel
theorem d14_49 : decode method_2_code 49 = .ok (.ireturn, 1) := by decide +kernel
theorem pn14 : plainFor (⟨"com/example/following_sibling/followingsibling/MarkedIndexesUnmarkPinLaw", "in", "(IIIIII)Z"⟩ : MethodName) = true := plainFor_of_name (by first | (simp [plainName, overriddenIn]; done) | decide +kernel)
theorem pd14 : parseMethodDescriptor "(IIIIII)Z" = some ⟨[.int, .int, .int, .int, .int, .int], some .boolean⟩ := by decide +kernel
set_option maxRecDepth 65536 in
set_option maxHeartbeats 40000000 in
theorem rm14 (l : Launch) (Z : State) (a0 : Array Value) (hw : ∀ d ∈ tables_1, d.before a0 Z = true) (p1 : Int32) (p2 : Int32) (p3 : Int32) (p4 : Int32) (p5 : Int32) (p6 : Int32)  (h0 : Heap) (n0 : Nat) (Z0 : n0 ≤ h0.size)  :
    oC l Z n0 (⟨"com/example/following_sibling/followingsibling/MarkedIndexesUnmarkPinLaw", "in", "(IIIIII)Z"⟩ : MethodName) method_2_code 6 (some .boolean) ({ frames := 0, cells := 0, slots := 0, locals := 0 } : Room) 0 0 #[(.int p1), (.int p2), (.int p3), (.int p4), (.int p5), (.int p6)] h0 (fun v h => v = some (.int (own_inv p1 p2 p3 p4 p5 p6)) ∧ h0 = h) := by
  refine oC.of (L := #[.val (.int p1), .val (.int p2), .val (.int p3), .val (.int p4), .val (.int p5), .val (.int p6)]) pn14 Z0 (fun m => by first | (simp [entryFrame, mkF, argsToLocals, Value.category]; done) | rfl) ?_
  intro p e s m below meth c T H
  refine o_iloadN H rfl d14_0 rfl ?_
  refine o_iload H rfl d14_1 rfl ?_
  refine o_icmp_ne H d14_3 (pt := 8) (by decide) (by decide) rfl ?_ ?_
  · intro c3_1
    refine o_iload H rfl d14_8 rfl ?_
    refine o_iconst H (1 : Int32) rfl d14_10 rfl ?_
    refine o_iand H d14_11 rfl ?_
    refine o_if_eq H d14_12 (pt := 20) (by decide) (by decide) rfl ?_ ?_
    · intro c12_2
      refine o_iload H rfl d14_20 rfl ?_
      refine o_iconst H (2 : Int32) rfl d14_22 rfl ?_
      refine o_iand H d14_23 rfl ?_
      refine o_if_eq H d14_24 (pt := 32) (by decide) (by decide) rfl ?_ ?_
      · intro c24_3
        refine o_iload H rfl d14_32 rfl ?_
        refine o_iconst H (4 : Int32) rfl d14_34 rfl ?_
        refine o_iand H d14_35 rfl ?_
        refine o_if_eq H d14_36 (pt := 48) (by decide) (by decide) rfl ?_ ?_
        · intro c36_4
          refine o_iconst H (0 : Int32) rfl d14_48 rfl ?_
          exact o_nreturn H .boolean rfl (by simp) d14_49 (by decide) (by decide) ⟨by rw [own_inv, if_neg (by unfold own_in; simp_all)]; rfl, rfl⟩
        · intro c36_4
          refine o_iloadN H rfl d14_39 rfl ?_
          refine o_iloadN H rfl d14_40 rfl ?_
          refine o_icmp_ne H d14_41 (pt := 48) (by decide) (by decide) rfl ?_ ?_
          · intro c41_5
            refine o_iconst H (0 : Int32) rfl d14_48 rfl ?_
            exact o_nreturn H .boolean rfl (by simp) d14_49 (by decide) (by decide) ⟨by rw [own_inv, if_neg (by unfold own_in; simp_all)]; rfl, rfl⟩
          · intro c41_5
            refine o_iconst H (1 : Int32) rfl d14_44 rfl ?_
            refine o_goto H d14_45 (pt := 49) (by decide) (by decide) ?_
            exact o_nreturn H .boolean rfl (by simp) d14_49 (by decide) (by decide) ⟨by rw [own_inv, if_pos (by unfold own_in; simp_all)]; rfl, rfl⟩
      · intro c24_3
        refine o_iloadN H rfl d14_27 rfl ?_
        refine o_iloadN H rfl d14_28 rfl ?_
        refine o_icmp_eq H d14_29 (pt := 44) (by decide) (by decide) rfl ?_ ?_
        · intro c29_6
          refine o_iconst H (1 : Int32) rfl d14_44 rfl ?_
          refine o_goto H d14_45 (pt := 49) (by decide) (by decide) ?_
          exact o_nreturn H .boolean rfl (by simp) d14_49 (by decide) (by decide) ⟨by rw [own_inv, if_pos (by unfold own_in; simp_all)]; rfl, rfl⟩
        · intro c29_6
          refine o_iload H rfl d14_32 rfl ?_
          refine o_iconst H (4 : Int32) rfl d14_34 rfl ?_
          refine o_iand H d14_35 rfl ?_
          refine o_if_eq H d14_36 (pt := 48) (by decide) (by decide) rfl ?_ ?_
          · intro c36_7
            refine o_iconst H (0 : Int32) rfl d14_48 rfl ?_
            exact o_nreturn H .boolean rfl (by simp) d14_49 (by decide) (by decide) ⟨by rw [own_inv, if_neg (by unfold own_in; simp_all)]; rfl, rfl⟩
          · intro c36_7
            refine o_iloadN H rfl d14_39 rfl ?_
            refine o_iloadN H rfl d14_40 rfl ?_
            refine o_icmp_ne H d14_41 (pt := 48) (by decide) (by decide) rfl ?_ ?_
            · intro c41_8
              refine o_iconst H (0 : Int32) rfl d14_48 rfl ?_
              exact o_nreturn H .boolean rfl (by simp) d14_49 (by decide) (by decide) ⟨by rw [own_inv, if_neg (by unfold own_in; simp_all)]; rfl, rfl⟩
            · intro c41_8
              refine o_iconst H (1 : Int32) rfl d14_44 rfl ?_
              refine o_goto H d14_45 (pt := 49) (by decide) (by decide) ?_
              exact o_nreturn H .boolean rfl (by simp) d14_49 (by decide) (by decide) ⟨by rw [own_inv, if_pos (by unfold own_in; simp_all)]; rfl, rfl⟩
    · intro c12_2
      refine o_iloadN H rfl d14_15 rfl ?_
      refine o_iloadN H rfl d14_16 rfl ?_
      refine o_icmp_eq H d14_17 (pt := 44) (by decide) (by decide) rfl ?_ ?_
      · intro c17_9
        refine o_iconst H (1 : Int32) rfl d14_44 rfl ?_
        refine o_goto H d14_45 (pt := 49) (by decide) (by decide) ?_
        exact o_nreturn H .boolean rfl (by simp) d14_49 (by decide) (by decide) ⟨by rw [own_inv, if_pos (by unfold own_in; simp_all)]; rfl, rfl⟩
      · intro c17_9
        refine o_iload H rfl d14_20 rfl ?_
        refine o_iconst H (2 : Int32) rfl d14_22 rfl ?_
        refine o_iand H d14_23 rfl ?_
        refine o_if_eq H d14_24 (pt := 32) (by decide) (by decide) rfl ?_ ?_
        · intro c24_10
          refine o_iload H rfl d14_32 rfl ?_
          refine o_iconst H (4 : Int32) rfl d14_34 rfl ?_
          refine o_iand H d14_35 rfl ?_
          refine o_if_eq H d14_36 (pt := 48) (by decide) (by decide) rfl ?_ ?_
          · intro c36_11
            refine o_iconst H (0 : Int32) rfl d14_48 rfl ?_
            exact o_nreturn H .boolean rfl (by simp) d14_49 (by decide) (by decide) ⟨by rw [own_inv, if_neg (by unfold own_in; simp_all)]; rfl, rfl⟩
          · intro c36_11
            refine o_iloadN H rfl d14_39 rfl ?_
            refine o_iloadN H rfl d14_40 rfl ?_
            refine o_icmp_ne H d14_41 (pt := 48) (by decide) (by decide) rfl ?_ ?_
            · intro c41_12
              refine o_iconst H (0 : Int32) rfl d14_48 rfl ?_
              exact o_nreturn H .boolean rfl (by simp) d14_49 (by decide) (by decide) ⟨by rw [own_inv, if_neg (by unfold own_in; simp_all)]; rfl, rfl⟩
            · intro c41_12
              refine o_iconst H (1 : Int32) rfl d14_44 rfl ?_
              refine o_goto H d14_45 (pt := 49) (by decide) (by decide) ?_
              exact o_nreturn H .boolean rfl (by simp) d14_49 (by decide) (by decide) ⟨by rw [own_inv, if_pos (by unfold own_in; simp_all)]; rfl, rfl⟩
        · intro c24_10
          refine o_iloadN H rfl d14_27 rfl ?_
          refine o_iloadN H rfl d14_28 rfl ?_
          refine o_icmp_eq H d14_29 (pt := 44) (by decide) (by decide) rfl ?_ ?_
          · intro c29_13
            refine o_iconst H (1 : Int32) rfl d14_44 rfl ?_
            refine o_goto H d14_45 (pt := 49) (by decide) (by decide) ?_
            exact o_nreturn H .boolean rfl (by simp) d14_49 (by decide) (by decide) ⟨by rw [own_inv, if_pos (by unfold own_in; simp_all)]; rfl, rfl⟩
          · intro c29_13
            refine o_iload H rfl d14_32 rfl ?_
            refine o_iconst H (4 : Int32) rfl d14_34 rfl ?_
            refine o_iand H d14_35 rfl ?_
            refine o_if_eq H d14_36 (pt := 48) (by decide) (by decide) rfl ?_ ?_
            · intro c36_14
              refine o_iconst H (0 : Int32) rfl d14_48 rfl ?_
              exact o_nreturn H .boolean rfl (by simp) d14_49 (by decide) (by decide) ⟨by rw [own_inv, if_neg (by unfold own_in; simp_all)]; rfl, rfl⟩
            · intro c36_14
              refine o_iloadN H rfl d14_39 rfl ?_
              refine o_iloadN H rfl d14_40 rfl ?_
              refine o_icmp_ne H d14_41 (pt := 48) (by decide) (by decide) rfl ?_ ?_
              · intro c41_15
                refine o_iconst H (0 : Int32) rfl d14_48 rfl ?_
                exact o_nreturn H .boolean rfl (by simp) d14_49 (by decide) (by decide) ⟨by rw [own_inv, if_neg (by unfold own_in; simp_all)]; rfl, rfl⟩
              · intro c41_15
                refine o_iconst H (1 : Int32) rfl d14_44 rfl ?_
                refine o_goto H d14_45 (pt := 49) (by decide) (by decide) ?_
                exact o_nreturn H .boolean rfl (by simp) d14_49 (by decide) (by decide) ⟨by rw [own_inv, if_pos (by unfold own_in; simp_all)]; rfl, rfl⟩
  · intro c3_1
    refine o_iconst H (0 : Int32) rfl d14_6 rfl ?_
    exact o_nreturn H .boolean rfl (by simp) d14_7 (by decide) (by decide) ⟨by rw [own_inv, if_neg (by unfold own_in; simp_all)]; rfl, rfl⟩
theorem d13_0 : decode method_3_code 0 = .ok (.iload_n 0, 1) := by decide +kernel
theorem d13_1 : decode method_3_code 1 = .ok (.istore 6, 2) := by decide +kernel
theorem d13_3 : decode method_3_code 3 = .ok (.iload 6, 2) := by decide +kernel
theorem d13_5 : decode method_3_code 5 = .ok (.iload_n 1, 1) := by decide +kernel
theorem d13_6 : decode method_3_code 6 = .ok (.iload_n 2, 1) := by decide +kernel
theorem d13_7 : decode method_3_code 7 = .ok (.iload_n 3, 1) := by decide +kernel
theorem d13_8 : decode method_3_code 8 = .ok (.iload 4, 2) := by decide +kernel
theorem d13_10 : decode method_3_code 10 = .ok (.iload 5, 2) := by decide +kernel
theorem d13_12 : decode method_3_code 12 = .ok (.invokestatic 7, 3) := by decide +kernel
theorem d13_15 : decode method_3_code 15 = .ok (.ifCond .eq 6, 3) := by decide +kernel
theorem d13_18 : decode method_3_code 18 = .ok (.iinc 6 1, 3) := by decide +kernel
theorem d13_21 : decode method_3_code 21 = .ok (.iload 6, 2) := by decide +kernel
theorem d13_23 : decode method_3_code 23 = .ok (.iload_n 1, 1) := by decide +kernel
theorem d13_24 : decode method_3_code 24 = .ok (.iload_n 2, 1) := by decide +kernel
theorem d13_25 : decode method_3_code 25 = .ok (.iload_n 3, 1) := by decide +kernel
theorem d13_26 : decode method_3_code 26 = .ok (.iload 4, 2) := by decide +kernel
theorem d13_28 : decode method_3_code 28 = .ok (.iload 5, 2) := by decide +kernel
theorem d13_30 : decode method_3_code 30 = .ok (.invokestatic 7, 3) := by decide +kernel
theorem d13_33 : decode method_3_code 33 = .ok (.ifCond .eq 6, 3) := by decide +kernel
theorem d13_36 : decode method_3_code 36 = .ok (.iinc 6 1, 3) := by decide +kernel
theorem d13_39 : decode method_3_code 39 = .ok (.iload 6, 2) := by decide +kernel
theorem d13_41 : decode method_3_code 41 = .ok (.iload_n 1, 1) := by decide +kernel
theorem d13_42 : decode method_3_code 42 = .ok (.iload_n 2, 1) := by decide +kernel
theorem d13_43 : decode method_3_code 43 = .ok (.iload_n 3, 1) := by decide +kernel
theorem d13_44 : decode method_3_code 44 = .ok (.iload 4, 2) := by decide +kernel
theorem d13_46 : decode method_3_code 46 = .ok (.iload 5, 2) := by decide +kernel
theorem d13_48 : decode method_3_code 48 = .ok (.invokestatic 7, 3) := by decide +kernel
theorem d13_51 : decode method_3_code 51 = .ok (.ifCond .eq 6, 3) := by decide +kernel
theorem d13_54 : decode method_3_code 54 = .ok (.iinc 6 1, 3) := by decide +kernel
theorem d13_57 : decode method_3_code 57 = .ok (.iload 6, 2) := by decide +kernel
theorem d13_59 : decode method_3_code 59 = .ok (.ireturn, 1) := by decide +kernel
theorem pn13 : plainFor (⟨"com/example/following_sibling/followingsibling/MarkedIndexesUnmarkPinLaw", "next", "(IIIIII)I"⟩ : MethodName) = true := plainFor_of_name (by first | (simp [plainName, overriddenIn]; done) | decide +kernel)
theorem pd13 : parseMethodDescriptor "(IIIIII)I" = some ⟨[.int, .int, .int, .int, .int, .int], some .int⟩ := by decide +kernel
set_option maxRecDepth 65536 in
set_option maxHeartbeats 40000000 in
theorem rm13 (l : Launch) (Z : State) (a0 : Array Value) (hw : ∀ d ∈ tables_1, d.before a0 Z = true) (p1 : Int32) (p2 : Int32) (p3 : Int32) (p4 : Int32) (p5 : Int32) (p6 : Int32)  (h0 : Heap) (n0 : Nat) (Z0 : n0 ≤ h0.size)  :
    oC l Z n0 (⟨"com/example/following_sibling/followingsibling/MarkedIndexesUnmarkPinLaw", "next", "(IIIIII)I"⟩ : MethodName) method_3_code 7 (some .int) ({ frames := 1, cells := 0, slots := 0, locals := 18 } : Room) 0 0 #[(.int p1), (.int p2), (.int p3), (.int p4), (.int p5), (.int p6)] h0 (fun v h => ∃ r, v = some (.int r) ∧ own_nr (fun y => own_in y p2 p3 p4 p5 p6) p1 r ∧ h0 = h) := by
  refine oC.of (L := #[.val (.int p1), .val (.int p2), .val (.int p3), .val (.int p4), .val (.int p5), .val (.int p6), .unset]) pn13 Z0 (fun m => by first | (simp [entryFrame, mkF, argsToLocals, Value.category]; done) | rfl) ?_
  intro p e s m below meth c T H
  refine o_iloadN H rfl d13_0 rfl ?_
  refine o_istore H (L' := #[.val (.int p1), .val (.int p2), .val (.int p3), .val (.int p4), .val (.int p5), .val (.int p6), .val (.int p1)]) rfl d13_1 rfl ?_
  refine o_iload H rfl d13_3 rfl ?_
  refine o_iloadN H rfl d13_5 rfl ?_
  refine o_iloadN H rfl d13_6 rfl ?_
  refine o_iloadN H rfl d13_7 rfl ?_
  refine o_iload H rfl d13_8 rfl ?_
  refine o_iload H rfl d13_10 rfl ?_
  refine o_static H [(.int p1), (.int p2), (.int p3), (.int p4), (.int p5), (.int p6)] [] (rm14 l Z a0 hw p1 p2 p3 p4 p5 p6 h0 n0 H.le) (w68 hw) (w69 hw) (w66 hw) (w70 hw) (by decide) (lenOf pd14 rfl) rfl rfl (by decide) (Nat.le_of_ble_eq_true rfl) (by decide) (by decide) d13_12 rfl ?_
  intro T1 v1 h1 H1 q1
  obtain ⟨rfl, rfl⟩ := q1
  show oG p e below s n0 _ _ _ (T1.setTop (mkF m 15 #[.val (.int p1), .val (.int p2), .val (.int p3), .val (.int p4), .val (.int p5), .val (.int p6), .val (.int p1)] [(.int (own_inv p1 p2 p3 p4 p5 p6))]))
  refine o_if_eq H1 d13_15 (pt := 21) (by decide) (by decide) rfl ?_ ?_
  · intro c15_2
    skip
    refine o_iload H1 rfl d13_21 rfl ?_
    refine o_iloadN H1 rfl d13_23 rfl ?_
    refine o_iloadN H1 rfl d13_24 rfl ?_
    refine o_iloadN H1 rfl d13_25 rfl ?_
    refine o_iload H1 rfl d13_26 rfl ?_
    refine o_iload H1 rfl d13_28 rfl ?_
    refine o_static H1 [(.int p1), (.int p2), (.int p3), (.int p4), (.int p5), (.int p6)] [] (rm14 l Z a0 hw p1 p2 p3 p4 p5 p6 h0 n0 H1.le) (w68 hw) (w69 hw) (w66 hw) (w70 hw) (by decide) (lenOf pd14 rfl) rfl rfl (by decide) (Nat.le_of_ble_eq_true rfl) (by decide) (by decide) d13_30 rfl ?_
    intro T3 v3 h3 H3 q3
    obtain ⟨rfl, rfl⟩ := q3
    show oG p e below s n0 _ _ _ (T3.setTop (mkF m 33 #[.val (.int p1), .val (.int p2), .val (.int p3), .val (.int p4), .val (.int p5), .val (.int p6), .val (.int p1)] [(.int (own_inv p1 p2 p3 p4 p5 p6))]))
    refine o_if_t H3 d13_33 (XT.i0_eq_t c15_2) (pt := 39) (by decide) (by decide) ?_
    refine o_iload H3 rfl d13_39 rfl ?_
    refine o_iloadN H3 rfl d13_41 rfl ?_
    refine o_iloadN H3 rfl d13_42 rfl ?_
    refine o_iloadN H3 rfl d13_43 rfl ?_
    refine o_iload H3 rfl d13_44 rfl ?_
    refine o_iload H3 rfl d13_46 rfl ?_
    refine o_static H3 [(.int p1), (.int p2), (.int p3), (.int p4), (.int p5), (.int p6)] [] (rm14 l Z a0 hw p1 p2 p3 p4 p5 p6 h0 n0 H3.le) (w68 hw) (w69 hw) (w66 hw) (w70 hw) (by decide) (lenOf pd14 rfl) rfl rfl (by decide) (Nat.le_of_ble_eq_true rfl) (by decide) (by decide) d13_48 rfl ?_
    intro T4 v4 h4 H4 q4
    obtain ⟨rfl, rfl⟩ := q4
    show oG p e below s n0 _ _ _ (T4.setTop (mkF m 51 #[.val (.int p1), .val (.int p2), .val (.int p3), .val (.int p4), .val (.int p5), .val (.int p6), .val (.int p1)] [(.int (own_inv p1 p2 p3 p4 p5 p6))]))
    refine o_if_t H4 d13_51 (XT.i0_eq_t c15_2) (pt := 57) (by decide) (by decide) ?_
    refine o_iload H4 rfl d13_57 rfl ?_
    exact o_ireturn H4 rfl d13_59 (by decide) (by decide) ⟨_, rfl, Or.inl ⟨(own_inv0 c15_2), rfl⟩, rfl⟩
  · intro c15_2
    skip
    refine o_iinc H1 (1 : Int32) (p1 + (1 : Int32)) rfl rfl rfl (L' := #[.val (.int p1), .val (.int p2), .val (.int p3), .val (.int p4), .val (.int p5), .val (.int p6), .val (.int (p1 + (1 : Int32)))]) rfl d13_18 rfl ?_
    refine o_iload H1 rfl d13_21 rfl ?_
    refine o_iloadN H1 rfl d13_23 rfl ?_
    refine o_iloadN H1 rfl d13_24 rfl ?_
    refine o_iloadN H1 rfl d13_25 rfl ?_
    refine o_iload H1 rfl d13_26 rfl ?_
    refine o_iload H1 rfl d13_28 rfl ?_
    refine o_static H1 [(.int (p1 + (1 : Int32))), (.int p2), (.int p3), (.int p4), (.int p5), (.int p6)] [] (rm14 l Z a0 hw (p1 + (1 : Int32)) p2 p3 p4 p5 p6 h0 n0 H1.le) (w68 hw) (w69 hw) (w66 hw) (w70 hw) (by decide) (lenOf pd14 rfl) rfl rfl (by decide) (Nat.le_of_ble_eq_true rfl) (by decide) (by decide) d13_30 rfl ?_
    intro T5 v5 h5 H5 q5
    obtain ⟨rfl, rfl⟩ := q5
    show oG p e below s n0 _ _ _ (T5.setTop (mkF m 33 #[.val (.int p1), .val (.int p2), .val (.int p3), .val (.int p4), .val (.int p5), .val (.int p6), .val (.int (p1 + (1 : Int32)))] [(.int (own_inv (p1 + (1 : Int32)) p2 p3 p4 p5 p6))]))
    refine o_if_eq H5 d13_33 (pt := 39) (by decide) (by decide) rfl ?_ ?_
    · intro c33_6
      skip
      refine o_iload H5 rfl d13_39 rfl ?_
      refine o_iloadN H5 rfl d13_41 rfl ?_
      refine o_iloadN H5 rfl d13_42 rfl ?_
      refine o_iloadN H5 rfl d13_43 rfl ?_
      refine o_iload H5 rfl d13_44 rfl ?_
      refine o_iload H5 rfl d13_46 rfl ?_
      refine o_static H5 [(.int (p1 + (1 : Int32))), (.int p2), (.int p3), (.int p4), (.int p5), (.int p6)] [] (rm14 l Z a0 hw (p1 + (1 : Int32)) p2 p3 p4 p5 p6 h0 n0 H5.le) (w68 hw) (w69 hw) (w66 hw) (w70 hw) (by decide) (lenOf pd14 rfl) rfl rfl (by decide) (Nat.le_of_ble_eq_true rfl) (by decide) (by decide) d13_48 rfl ?_
      intro T7 v7 h7 H7 q7
      obtain ⟨rfl, rfl⟩ := q7
      show oG p e below s n0 _ _ _ (T7.setTop (mkF m 51 #[.val (.int p1), .val (.int p2), .val (.int p3), .val (.int p4), .val (.int p5), .val (.int p6), .val (.int (p1 + (1 : Int32)))] [(.int (own_inv (p1 + (1 : Int32)) p2 p3 p4 p5 p6))]))
      refine o_if_t H7 d13_51 (XT.i0_eq_t c33_6) (pt := 57) (by decide) (by decide) ?_
      refine o_iload H7 rfl d13_57 rfl ?_
      exact o_ireturn H7 rfl d13_59 (by decide) (by decide) ⟨_, rfl, Or.inr (Or.inl ⟨(own_inv1 c15_2), (own_inv0 c33_6), rfl⟩), rfl⟩
    · intro c33_6
      skip
      refine o_iinc H5 (1 : Int32) ((p1 + (1 : Int32)) + (1 : Int32)) rfl rfl rfl (L' := #[.val (.int p1), .val (.int p2), .val (.int p3), .val (.int p4), .val (.int p5), .val (.int p6), .val (.int ((p1 + (1 : Int32)) + (1 : Int32)))]) rfl d13_36 rfl ?_
      refine o_iload H5 rfl d13_39 rfl ?_
      refine o_iloadN H5 rfl d13_41 rfl ?_
      refine o_iloadN H5 rfl d13_42 rfl ?_
      refine o_iloadN H5 rfl d13_43 rfl ?_
      refine o_iload H5 rfl d13_44 rfl ?_
      refine o_iload H5 rfl d13_46 rfl ?_
      refine o_static H5 [(.int ((p1 + (1 : Int32)) + (1 : Int32))), (.int p2), (.int p3), (.int p4), (.int p5), (.int p6)] [] (rm14 l Z a0 hw ((p1 + (1 : Int32)) + (1 : Int32)) p2 p3 p4 p5 p6 h0 n0 H5.le) (w68 hw) (w69 hw) (w66 hw) (w70 hw) (by decide) (lenOf pd14 rfl) rfl rfl (by decide) (Nat.le_of_ble_eq_true rfl) (by decide) (by decide) d13_48 rfl ?_
      intro T8 v8 h8 H8 q8
      obtain ⟨rfl, rfl⟩ := q8
      show oG p e below s n0 _ _ _ (T8.setTop (mkF m 51 #[.val (.int p1), .val (.int p2), .val (.int p3), .val (.int p4), .val (.int p5), .val (.int p6), .val (.int ((p1 + (1 : Int32)) + (1 : Int32)))] [(.int (own_inv ((p1 + (1 : Int32)) + (1 : Int32)) p2 p3 p4 p5 p6))]))
      refine o_if_eq H8 d13_51 (pt := 57) (by decide) (by decide) rfl ?_ ?_
      · intro c51_9
        skip
        refine o_iload H8 rfl d13_57 rfl ?_
        exact o_ireturn H8 rfl d13_59 (by decide) (by decide) ⟨_, rfl, Or.inr (Or.inr (Or.inl ⟨(own_inv1 c15_2), (own_inv1 c33_6), (own_inv0 c51_9), rfl⟩)), rfl⟩
      · intro c51_9
        skip
        refine o_iinc H8 (1 : Int32) (((p1 + (1 : Int32)) + (1 : Int32)) + (1 : Int32)) rfl rfl rfl (L' := #[.val (.int p1), .val (.int p2), .val (.int p3), .val (.int p4), .val (.int p5), .val (.int p6), .val (.int (((p1 + (1 : Int32)) + (1 : Int32)) + (1 : Int32)))]) rfl d13_54 rfl ?_
        refine o_iload H8 rfl d13_57 rfl ?_
        exact o_ireturn H8 rfl d13_59 (by decide) (by decide) ⟨_, rfl, Or.inr (Or.inr (Or.inr ⟨(own_inv1 c15_2), (own_inv1 c33_6), (own_inv1 c51_9), rfl⟩)), rfl⟩
theorem own_M.exa {Z : State} {h : Heap} {n0 : Nat} {a : Addr} {ws : List Int64} (M : own_M Z h n0 a ws) : Exa Z h a "com/example/following_sibling/followingsibling/MarkedIndexes" := by
  obtain ⟨la, vs, q, -⟩ := M; exact q
theorem own_msk (x m : Int32) (b : Nat) (hm : m.toInt = (b : Int)) : ∃ n : Nat, (x &&& m).toInt = (n : Int) ∧ n ≤ b := by
  have := n_and x m (by omega)
  exact ⟨(x &&& m).toInt.toNat, by omega, by omega⟩
theorem pn0 : plainFor x = true := plainFor_of_name (by first | (simp [plainName, overriddenIn]; done) | decide +kernel)
set_option maxRecDepth 65536 in
set_option maxHeartbeats 40000000 in
theorem rmS6 (l : Launch) (Z : State) (a0 : Array Value) (hw : ∀ d ∈ tables_1, d.before a0 Z = true) (p1 p2 p3 p4 p5 p6 ba va vb vc vk vu vx : Int32) (A B C U X : Nat) (a13 : Addr) (ws : List Int64) (h0 : Heap) (n0 : Nat) (hA : va.toInt = (A : Int)) (hA2 : A ≤ 4222) (hB : vb.toInt = (B : Int)) (hB2 : B ≤ 4222) (hC : vc.toInt = (C : Int)) (hC2 : C ≤ 65535) (hU : vu.toInt = (U : Int)) (hU2 : U ≤ 262143) (hX : vx.toInt = (X : Int)) (hX2 : X ≤ 4222) (MM : own_M Z h0 n0 a13 ws) (hn0 : ws.length ≤ 1024) (hbits : ∀ j, own_bit ws j = true ↔ own_PN A B C U (¬ (p6 &&& 1) = 0) (¬ (p6 &&& 2) = 0) (¬ (p6 &&& 4) = 0) j) (p : Program) (e : Env) (s : State) (m : MethodId) (below : List Frame) (meth : Method) (c : Code) (T : State) (H : oH p l e room_1 s m #[.int p1, .int p2, .int p3, .int p4, .int p5, .int p6] below meth c code maxLocals x ret Z n0 T h0 17 1381) :
    oG p e below s n0 40 2624 (fun v h => v = some (.int 1)) (T.setTop (mkF m 191 #[.val (.int p1), .val (.int p2), .val (.int p3), .val (.int p4), .val (.int p5), .val (.int p6), .val (.int ba), .val (.int va), .val (.int vb), .val (.int vc), .val (.int vk), .val (.int vu), .val (.int vx), .val (.ref a13), .unset] [])) := by
  refine o_aload H rfl rfl at_191 rfl ?_
  refine o_iload H rfl at_193 rfl ?_
  refine o_virtual H [(.int vu)] [] (rm9 l Z a0 hw a13 vu ws U A B C h0 n0 H.le MM hU (by omega) hn0 (own_PN.sub hbits)) MM.exa (w46 hw) (w47 hw) (o_nf (w49 hw)) (w49 hw) (w48 hw) (w3 hw) (w50 hw) (by decide) (lenOf pd9 rfl) rfl rfl (by decide) (Nat.le_of_ble_eq_true rfl) (by decide) (by decide) at_195 rfl ?_
  intro T1 v1 h1 H1 q1
  obtain ⟨r1, rfl, hr1, rfl⟩ := q1
  show oG p e below s n0 _ _ _ (T1.setTop (mkF m 198 #[.val (.int p1), .val (.int p2), .val (.int p3), .val (.int p4), .val (.int p5), .val (.int p6), .val (.int ba), .val (.int va), .val (.int vb), .val (.int vc), .val (.int vk), .val (.int vu), .val (.int vx), .val (.ref a13), .unset] [(.int r1)]))
  refine o_iload H1 rfl at_198 rfl ?_
  refine o_iload H1 rfl at_200 rfl ?_
  refine o_iload H1 rfl at_202 rfl ?_
  refine o_iload H1 rfl at_204 rfl ?_
  refine o_iload H1 rfl at_206 rfl ?_
  refine o_iload H1 rfl at_208 rfl ?_
  refine o_static H1 [(.int vu), (.int va), (.int vb), (.int vc), (.int vu), (.int p6)] [(.int r1)] (rm13 l Z a0 hw vu va vb vc vu p6 h0 n0 H1.le) (w64 hw) (w65 hw) (w66 hw) (w67 hw) (by decide) (lenOf pd13 rfl) rfl rfl (by decide) (Nat.le_of_ble_eq_true rfl) (by decide) (by decide) at_210 rfl ?_
  intro T2 v2 h2 H2 q2
  obtain ⟨q2, rfl, hq2, rfl⟩ := q2
  show oG p e below s n0 _ _ _ (T2.setTop (mkF m 213 #[.val (.int p1), .val (.int p2), .val (.int p3), .val (.int p4), .val (.int p5), .val (.int p6), .val (.int ba), .val (.int va), .val (.int vb), .val (.int vc), .val (.int vk), .val (.int vu), .val (.int vx), .val (.ref a13), .unset] [(.int q2), (.int r1)]))
  refine o_icmp_f H2 at_213 (XT.ii_ne_f (own_same hbits hq2 hU (by omega) hA hB hC hU hr1)) rfl ?_
  refine o_iconst H2 (1 : Int32) rfl at_216 rfl ?_
  refine o_goto H2 at_217 (pt := 221) (by decide) (by decide) ?_
  refine o_istore H2 (L' := #[.val (.int p1), .val (.int p2), .val (.int p3), .val (.int p4), .val (.int p5), .val (.int p6), .val (.int ba), .val (.int va), .val (.int vb), .val (.int vc), .val (.int vk), .val (.int vu), .val (.int vx), .val (.ref a13), .val (.int (1 : Int32))]) rfl at_221 rfl ?_
  refine o_iload H2 rfl at_223 rfl ?_
  refine o_if_f H2 at_225 (by decide) rfl ?_
  refine o_aload H2 rfl rfl at_228 rfl ?_
  refine o_iload H2 rfl at_230 rfl ?_
  refine o_virtual H2 [(.int va)] [] (rm9 l Z a0 hw a13 va ws A A B C h0 n0 H2.le MM hA (by omega) hn0 (own_PN.sub hbits)) MM.exa (w46 hw) (w47 hw) (o_nf (w49 hw)) (w49 hw) (w48 hw) (w3 hw) (w50 hw) (by decide) (lenOf pd9 rfl) rfl rfl (by decide) (Nat.le_of_ble_eq_true rfl) (by decide) (by decide) at_232 rfl ?_
  intro T3 v3 h3 H3 q3
  obtain ⟨r3, rfl, hr3, rfl⟩ := q3
  show oG p e below s n0 _ _ _ (T3.setTop (mkF m 235 #[.val (.int p1), .val (.int p2), .val (.int p3), .val (.int p4), .val (.int p5), .val (.int p6), .val (.int ba), .val (.int va), .val (.int vb), .val (.int vc), .val (.int vk), .val (.int vu), .val (.int vx), .val (.ref a13), .val (.int (1 : Int32))] [(.int r3)]))
  refine o_iload H3 rfl at_235 rfl ?_
  refine o_iload H3 rfl at_237 rfl ?_
  refine o_iload H3 rfl at_239 rfl ?_
  refine o_iload H3 rfl at_241 rfl ?_
  refine o_iload H3 rfl at_243 rfl ?_
  refine o_iload H3 rfl at_245 rfl ?_
  refine o_static H3 [(.int va), (.int va), (.int vb), (.int vc), (.int vu), (.int p6)] [(.int r3)] (rm13 l Z a0 hw va va vb vc vu p6 h0 n0 H3.le) (w64 hw) (w65 hw) (w66 hw) (w67 hw) (by decide) (lenOf pd13 rfl) rfl rfl (by decide) (Nat.le_of_ble_eq_true rfl) (by decide) (by decide) at_247 rfl ?_
  intro T4 v4 h4 H4 q4
  obtain ⟨q4, rfl, hq4, rfl⟩ := q4
  show oG p e below s n0 _ _ _ (T4.setTop (mkF m 250 #[.val (.int p1), .val (.int p2), .val (.int p3), .val (.int p4), .val (.int p5), .val (.int p6), .val (.int ba), .val (.int va), .val (.int vb), .val (.int vc), .val (.int vk), .val (.int vu), .val (.int vx), .val (.ref a13), .val (.int (1 : Int32))] [(.int q4), (.int r3)]))
  refine o_icmp_f H4 at_250 (XT.ii_ne_f (own_same hbits hq4 hA (by omega) hA hB hC hU hr3)) rfl ?_
  refine o_iconst H4 (1 : Int32) rfl at_253 rfl ?_
  refine o_goto H4 at_254 (pt := 258) (by decide) (by decide) ?_
  refine o_istore H4 (L' := #[.val (.int p1), .val (.int p2), .val (.int p3), .val (.int p4), .val (.int p5), .val (.int p6), .val (.int ba), .val (.int va), .val (.int vb), .val (.int vc), .val (.int vk), .val (.int vu), .val (.int vx), .val (.ref a13), .val (.int (1 : Int32))]) rfl at_258 rfl ?_
  refine o_iload H4 rfl at_260 rfl ?_
  refine o_if_f H4 at_262 (by decide) rfl ?_
  refine o_aload H4 rfl rfl at_265 rfl ?_
  refine o_iload H4 rfl at_267 rfl ?_
  refine o_virtual H4 [(.int vc)] [] (rm9 l Z a0 hw a13 vc ws C A B C h0 n0 H4.le MM hC (by omega) hn0 (own_PN.sub hbits)) MM.exa (w46 hw) (w47 hw) (o_nf (w49 hw)) (w49 hw) (w48 hw) (w3 hw) (w50 hw) (by decide) (lenOf pd9 rfl) rfl rfl (by decide) (Nat.le_of_ble_eq_true rfl) (by decide) (by decide) at_269 rfl ?_
  intro T5 v5 h5 H5 q5
  obtain ⟨r5, rfl, hr5, rfl⟩ := q5
  show oG p e below s n0 _ _ _ (T5.setTop (mkF m 272 #[.val (.int p1), .val (.int p2), .val (.int p3), .val (.int p4), .val (.int p5), .val (.int p6), .val (.int ba), .val (.int va), .val (.int vb), .val (.int vc), .val (.int vk), .val (.int vu), .val (.int vx), .val (.ref a13), .val (.int (1 : Int32))] [(.int r5)]))
  refine o_iload H5 rfl at_272 rfl ?_
  refine o_iload H5 rfl at_274 rfl ?_
  refine o_iload H5 rfl at_276 rfl ?_
  refine o_iload H5 rfl at_278 rfl ?_
  refine o_iload H5 rfl at_280 rfl ?_
  refine o_iload H5 rfl at_282 rfl ?_
  refine o_static H5 [(.int vc), (.int va), (.int vb), (.int vc), (.int vu), (.int p6)] [(.int r5)] (rm13 l Z a0 hw vc va vb vc vu p6 h0 n0 H5.le) (w64 hw) (w65 hw) (w66 hw) (w67 hw) (by decide) (lenOf pd13 rfl) rfl rfl (by decide) (Nat.le_of_ble_eq_true rfl) (by decide) (by decide) at_284 rfl ?_
  intro T6 v6 h6 H6 q6
  obtain ⟨q6, rfl, hq6, rfl⟩ := q6
  show oG p e below s n0 _ _ _ (T6.setTop (mkF m 287 #[.val (.int p1), .val (.int p2), .val (.int p3), .val (.int p4), .val (.int p5), .val (.int p6), .val (.int ba), .val (.int va), .val (.int vb), .val (.int vc), .val (.int vk), .val (.int vu), .val (.int vx), .val (.ref a13), .val (.int (1 : Int32))] [(.int q6), (.int r5)]))
  refine o_icmp_f H6 at_287 (XT.ii_ne_f (own_same hbits hq6 hC (by omega) hA hB hC hU hr5)) rfl ?_
  refine o_iconst H6 (1 : Int32) rfl at_290 rfl ?_
  refine o_goto H6 at_291 (pt := 295) (by decide) (by decide) ?_
  refine o_istore H6 (L' := #[.val (.int p1), .val (.int p2), .val (.int p3), .val (.int p4), .val (.int p5), .val (.int p6), .val (.int ba), .val (.int va), .val (.int vb), .val (.int vc), .val (.int vk), .val (.int vu), .val (.int vx), .val (.ref a13), .val (.int (1 : Int32))]) rfl at_295 rfl ?_
  refine o_iload H6 rfl at_297 rfl ?_
  refine o_if_f H6 at_299 (by decide) rfl ?_
  refine o_aload H6 rfl rfl at_302 rfl ?_
  refine o_iload H6 rfl at_304 rfl ?_
  refine o_virtual H6 [(.int vx)] [] (rm9 l Z a0 hw a13 vx ws X A B C h0 n0 H6.le MM hX (by omega) hn0 (own_PN.sub hbits)) MM.exa (w46 hw) (w47 hw) (o_nf (w49 hw)) (w49 hw) (w48 hw) (w3 hw) (w50 hw) (by decide) (lenOf pd9 rfl) rfl rfl (by decide) (Nat.le_of_ble_eq_true rfl) (by decide) (by decide) at_306 rfl ?_
  intro T7 v7 h7 H7 q7
  obtain ⟨r7, rfl, hr7, rfl⟩ := q7
  show oG p e below s n0 _ _ _ (T7.setTop (mkF m 309 #[.val (.int p1), .val (.int p2), .val (.int p3), .val (.int p4), .val (.int p5), .val (.int p6), .val (.int ba), .val (.int va), .val (.int vb), .val (.int vc), .val (.int vk), .val (.int vu), .val (.int vx), .val (.ref a13), .val (.int (1 : Int32))] [(.int r7)]))
  refine o_iload H7 rfl at_309 rfl ?_
  refine o_iload H7 rfl at_311 rfl ?_
  refine o_iload H7 rfl at_313 rfl ?_
  refine o_iload H7 rfl at_315 rfl ?_
  refine o_iload H7 rfl at_317 rfl ?_
  refine o_iload H7 rfl at_319 rfl ?_
  refine o_static H7 [(.int vx), (.int va), (.int vb), (.int vc), (.int vu), (.int p6)] [(.int r7)] (rm13 l Z a0 hw vx va vb vc vu p6 h0 n0 H7.le) (w64 hw) (w65 hw) (w66 hw) (w67 hw) (by decide) (lenOf pd13 rfl) rfl rfl (by decide) (Nat.le_of_ble_eq_true rfl) (by decide) (by decide) at_321 rfl ?_
  intro T8 v8 h8 H8 q8
  obtain ⟨q8, rfl, hq8, rfl⟩ := q8
  show oG p e below s n0 _ _ _ (T8.setTop (mkF m 324 #[.val (.int p1), .val (.int p2), .val (.int p3), .val (.int p4), .val (.int p5), .val (.int p6), .val (.int ba), .val (.int va), .val (.int vb), .val (.int vc), .val (.int vk), .val (.int vu), .val (.int vx), .val (.ref a13), .val (.int (1 : Int32))] [(.int q8), (.int r7)]))
  refine o_icmp_f H8 at_324 (XT.ii_ne_f (own_same hbits hq8 hX (by omega) hA hB hC hU hr7)) rfl ?_
  refine o_iconst H8 (1 : Int32) rfl at_327 rfl ?_
  refine o_goto H8 at_328 (pt := 332) (by decide) (by decide) ?_
  refine o_istore H8 (L' := #[.val (.int p1), .val (.int p2), .val (.int p3), .val (.int p4), .val (.int p5), .val (.int p6), .val (.int ba), .val (.int va), .val (.int vb), .val (.int vc), .val (.int vk), .val (.int vu), .val (.int vx), .val (.ref a13), .val (.int (1 : Int32))]) rfl at_332 rfl ?_
  refine o_iload H8 rfl at_334 rfl ?_
  exact o_nreturn H8 .boolean rfl (by simp) at_336 (by decide) (by decide) rfl
set_option maxRecDepth 65536 in
set_option maxHeartbeats 40000000 in
theorem rmS4 (l : Launch) (Z : State) (a0 : Array Value) (hw : ∀ d ∈ tables_1, d.before a0 Z = true) (p1 p2 p3 p4 p5 p6 ba va vb vc vk vu vx : Int32) (A B C U X : Nat) (a13 : Addr) (ws : List Int64) (h0 : Heap) (n0 : Nat) (hA : va.toInt = (A : Int)) (hA2 : A ≤ 4222) (hB : vb.toInt = (B : Int)) (hB2 : B ≤ 4222) (hC : vc.toInt = (C : Int)) (hC2 : C ≤ 65535) (hU : vu.toInt = (U : Int)) (hU2 : U ≤ 262143) (hX : vx.toInt = (X : Int)) (hX2 : X ≤ 4222) (MM : own_M Z h0 n0 a13 ws) (hn0 : ws.length ≤ 1024) (hst : own_st ws A B C (¬ (p6 &&& 1) = 0) (¬ (p6 &&& 2) = 0) (¬ (p6 &&& 4) = 0)) (p : Program) (e : Env) (s : State) (m : MethodId) (below : List Frame) (meth : Method) (c : Code) (T : State) (H : oH p l e room_1 s m #[.int p1, .int p2, .int p3, .int p4, .int p5, .int p6] below meth c code maxLocals x ret Z n0 T h0 17 1381) :
    oG p e below s n0 40 2624 (fun v h => v = some (.int 1)) (T.setTop (mkF m 169 #[.val (.int p1), .val (.int p2), .val (.int p3), .val (.int p4), .val (.int p5), .val (.int p6), .val (.int ba), .val (.int va), .val (.int vb), .val (.int vc), .val (.int vk), .val (.int vu), .val (.int vx), .val (.ref a13), .unset] [])) := by
  refine o_aload H rfl rfl at_169 rfl ?_
  refine o_iload H rfl at_171 rfl ?_
  refine o_virtual H [(.int vu)] [] (rm8 l Z a0 hw a13 vu ws U A B C h0 n0 H.le MM hU (by omega) hn0 hst.sub) MM.exa (w41 hw) (w42 hw) (o_nf (w44 hw)) (w44 hw) (w43 hw) (w3 hw) (w45 hw) (by decide) (lenOf pd8 rfl) rfl rfl (by decide) (Nat.le_of_ble_eq_true rfl) (by decide) (by decide) at_173 rfl ?_
  intro T1 v1 h1 H1 q1
  obtain ⟨rfl, ws1, M1, hb1, hj1⟩ := q1
  have hf1 := own_fin hst hj1
  show oG p e below s n0 _ _ _ (T1.setTop (mkF m 176 #[.val (.int p1), .val (.int p2), .val (.int p3), .val (.int p4), .val (.int p5), .val (.int p6), .val (.int ba), .val (.int va), .val (.int vb), .val (.int vc), .val (.int vk), .val (.int vu), .val (.int vx), .val (.ref a13), .unset] []))
  refine o_iload H1 rfl at_176 rfl ?_
  refine o_bipush H1 (8 : Int32) rfl at_178 rfl ?_
  refine o_iand H1 at_180 rfl ?_
  refine o_if_eq H1 at_181 (pt := 191) (by decide) (by decide) rfl ?_ ?_
  · intro c181_2
    skip
    exact rmS6 l Z a0 hw p1 p2 p3 p4 p5 p6 ba va vb vc vk vu vx A B C U X a13 ws1 h1 n0 hA hA2 hB hB2 hC hC2 hU hU2 hX hX2 M1 hb1 hf1 p e s m below meth c _ H1
  · intro c181_2
    skip
    refine o_aload H1 rfl rfl at_184 rfl ?_
    refine o_iload H1 rfl at_186 rfl ?_
    refine o_virtual H1 [(.int vu)] [] (rm8 l Z a0 hw a13 vu ws1 U A B C h1 n0 H1.le M1 hU (by omega) hb1 (own_PN.sub hf1)) M1.exa (w41 hw) (w42 hw) (o_nf (w44 hw)) (w44 hw) (w43 hw) (w3 hw) (w45 hw) (by decide) (lenOf pd8 rfl) rfl rfl (by decide) (Nat.le_of_ble_eq_true rfl) (by decide) (by decide) at_188 rfl ?_
    intro T3 v3 h3 H3 q3
    obtain ⟨rfl, ws3, M3, hb3, hj3⟩ := q3
    have hf2 := own_fin2 hf1 hj3
    show oG p e below s n0 _ _ _ (T3.setTop (mkF m 191 #[.val (.int p1), .val (.int p2), .val (.int p3), .val (.int p4), .val (.int p5), .val (.int p6), .val (.int ba), .val (.int va), .val (.int vb), .val (.int vc), .val (.int vk), .val (.int vu), .val (.int vx), .val (.ref a13), .unset] []))
    exact rmS6 l Z a0 hw p1 p2 p3 p4 p5 p6 ba va vb vc vk vu vx A B C U X a13 ws3 h3 n0 hA hA2 hB hB2 hC hC2 hU hU2 hX hX2 M3 hb3 hf2 p e s m below meth c _ H3
set_option maxRecDepth 65536 in
set_option maxHeartbeats 40000000 in
theorem rmS3 (l : Launch) (Z : State) (a0 : Array Value) (hw : ∀ d ∈ tables_1, d.before a0 Z = true) (p1 p2 p3 p4 p5 p6 ba va vb vc vk vu vx : Int32) (A B C U X : Nat) (a13 : Addr) (ws : List Int64) (h0 : Heap) (n0 : Nat) (hA : va.toInt = (A : Int)) (hA2 : A ≤ 4222) (hB : vb.toInt = (B : Int)) (hB2 : B ≤ 4222) (hC : vc.toInt = (C : Int)) (hC2 : C ≤ 65535) (hU : vu.toInt = (U : Int)) (hU2 : U ≤ 262143) (hX : vx.toInt = (X : Int)) (hX2 : X ≤ 4222) (MM : own_M Z h0 n0 a13 ws) (hn0 : ws.length ≤ 130) (hst : own_st ws A B C (¬ (p6 &&& 1) = 0) (¬ (p6 &&& 2) = 0) False) (p : Program) (e : Env) (s : State) (m : MethodId) (below : List Frame) (meth : Method) (c : Code) (T : State) (H : oH p l e room_1 s m #[.int p1, .int p2, .int p3, .int p4, .int p5, .int p6] below meth c code maxLocals x ret Z n0 T h0 12 321) :
    oG p e below s n0 40 2624 (fun v h => v = some (.int 1)) (T.setTop (mkF m 155 #[.val (.int p1), .val (.int p2), .val (.int p3), .val (.int p4), .val (.int p5), .val (.int p6), .val (.int ba), .val (.int va), .val (.int vb), .val (.int vc), .val (.int vk), .val (.int vu), .val (.int vx), .val (.ref a13), .unset] [])) := by
  refine o_iload H rfl at_155 rfl ?_
  refine o_iconst H (4 : Int32) rfl at_157 rfl ?_
  refine o_iand H at_158 rfl ?_
  refine o_if_eq H at_159 (pt := 169) (by decide) (by decide) rfl ?_ ?_
  · intro c159_1
    exact rmS4 l Z a0 hw p1 p2 p3 p4 p5 p6 ba va vb vc vk vu vx A B C U X a13 ws h0 n0 hA hA2 hB hB2 hC hC2 hU hU2 hX hX2 MM (by omega) (own_s3n hst (not_not_intro c159_1)) p e s m below meth c _ (H.more (by decide) (by decide))
  · intro c159_1
    refine o_aload H rfl rfl at_162 rfl ?_
    refine o_iload H rfl at_164 rfl ?_
    refine o_virtual H [(.int vc)] [] (rm3_1024 l Z a0 hw a13 vc ws C A B C h0 n0 H.le MM hC (by omega) hn0 hst.sub (Or.inr (Or.inr rfl))) MM.exa (w14 hw) (w15 hw) (o_nf (w17 hw)) (w17 hw) (w16 hw) (w3 hw) (w18 hw) (by decide) (lenOf pd3 rfl) rfl rfl (by decide) (Nat.le_of_ble_eq_true rfl) (by decide) (by decide) at_166 rfl ?_
    intro T2 v2 h2 H2 q2
    obtain ⟨rfl, ws2, M2, hb2, hj2⟩ := q2
    show oG p e below s n0 _ _ _ (T2.setTop (mkF m 169 #[.val (.int p1), .val (.int p2), .val (.int p3), .val (.int p4), .val (.int p5), .val (.int p6), .val (.int ba), .val (.int va), .val (.int vb), .val (.int vc), .val (.int vk), .val (.int vu), .val (.int vx), .val (.ref a13), .unset] []))
    exact rmS4 l Z a0 hw p1 p2 p3 p4 p5 p6 ba va vb vc vk vu vx A B C U X a13 ws2 h2 n0 hA hA2 hB hB2 hC hC2 hU hU2 hX hX2 M2 hb2 (own_s3 hst hj2 c159_1) p e s m below meth c _ (H2.more (by decide) (by decide))
set_option maxRecDepth 65536 in
set_option maxHeartbeats 40000000 in
theorem rmS2 (l : Launch) (Z : State) (a0 : Array Value) (hw : ∀ d ∈ tables_1, d.before a0 Z = true) (p1 p2 p3 p4 p5 p6 ba va vb vc vk vu vx : Int32) (A B C U X : Nat) (a13 : Addr) (ws : List Int64) (h0 : Heap) (n0 : Nat) (hA : va.toInt = (A : Int)) (hA2 : A ≤ 4222) (hB : vb.toInt = (B : Int)) (hB2 : B ≤ 4222) (hC : vc.toInt = (C : Int)) (hC2 : C ≤ 65535) (hU : vu.toInt = (U : Int)) (hU2 : U ≤ 262143) (hX : vx.toInt = (X : Int)) (hX2 : X ≤ 4222) (MM : own_M Z h0 n0 a13 ws) (hn0 : ws.length ≤ 130) (hst : own_st ws A B C (¬ (p6 &&& 1) = 0) False False) (p : Program) (e : Env) (s : State) (m : MethodId) (below : List Frame) (meth : Method) (c : Code) (T : State) (H : oH p l e room_1 s m #[.int p1, .int p2, .int p3, .int p4, .int p5, .int p6] below meth c code maxLocals x ret Z n0 T h0 7 161) :
    oG p e below s n0 40 2624 (fun v h => v = some (.int 1)) (T.setTop (mkF m 141 #[.val (.int p1), .val (.int p2), .val (.int p3), .val (.int p4), .val (.int p5), .val (.int p6), .val (.int ba), .val (.int va), .val (.int vb), .val (.int vc), .val (.int vk), .val (.int vu), .val (.int vx), .val (.ref a13), .unset] [])) := by
  refine o_iload H rfl at_141 rfl ?_
  refine o_iconst H (2 : Int32) rfl at_143 rfl ?_
  refine o_iand H at_144 rfl ?_
  refine o_if_eq H at_145 (pt := 155) (by decide) (by decide) rfl ?_ ?_
  · intro c145_1
    exact rmS3 l Z a0 hw p1 p2 p3 p4 p5 p6 ba va vb vc vk vu vx A B C U X a13 ws h0 n0 hA hA2 hB hB2 hC hC2 hU hU2 hX hX2 MM (by omega) (own_s2n hst (not_not_intro c145_1)) p e s m below meth c _ (H.more (by decide) (by decide))
  · intro c145_1
    refine o_aload H rfl rfl at_148 rfl ?_
    refine o_iload H rfl at_150 rfl ?_
    refine o_virtual H [(.int vb)] [] (rm3_130 l Z a0 hw a13 vb ws B A B C h0 n0 H.le MM hB (by omega) hn0 hst.sub (Or.inr (Or.inl rfl))) MM.exa (w14 hw) (w15 hw) (o_nf (w17 hw)) (w17 hw) (w16 hw) (w3 hw) (w18 hw) (by decide) (lenOf pd3 rfl) rfl rfl (by decide) (Nat.le_of_ble_eq_true rfl) (by decide) (by decide) at_152 rfl ?_
    intro T2 v2 h2 H2 q2
    obtain ⟨rfl, ws2, M2, hb2, hj2⟩ := q2
    show oG p e below s n0 _ _ _ (T2.setTop (mkF m 155 #[.val (.int p1), .val (.int p2), .val (.int p3), .val (.int p4), .val (.int p5), .val (.int p6), .val (.int ba), .val (.int va), .val (.int vb), .val (.int vc), .val (.int vk), .val (.int vu), .val (.int vx), .val (.ref a13), .unset] []))
    exact rmS3 l Z a0 hw p1 p2 p3 p4 p5 p6 ba va vb vc vk vu vx A B C U X a13 ws2 h2 n0 hA hA2 hB hB2 hC hC2 hU hU2 hX hX2 M2 hb2 (own_s2 hst hj2 c145_1) p e s m below meth c _ (H2.more (by decide) (by decide))
set_option maxRecDepth 65536 in
set_option maxHeartbeats 40000000 in
theorem rmS1 (l : Launch) (Z : State) (a0 : Array Value) (hw : ∀ d ∈ tables_1, d.before a0 Z = true) (p1 p2 p3 p4 p5 p6 ba va vb vc vk vu vx : Int32) (A B C U X : Nat) (a13 : Addr) (ws : List Int64) (h0 : Heap) (n0 : Nat) (hA : va.toInt = (A : Int)) (hA2 : A ≤ 4222) (hB : vb.toInt = (B : Int)) (hB2 : B ≤ 4222) (hC : vc.toInt = (C : Int)) (hC2 : C ≤ 65535) (hU : vu.toInt = (U : Int)) (hU2 : U ≤ 262143) (hX : vx.toInt = (X : Int)) (hX2 : X ≤ 4222) (MM : own_M Z h0 n0 a13 ws) (hn0 : ws.length ≤ 130) (hst : own_st ws A B C False False False) (p : Program) (e : Env) (s : State) (m : MethodId) (below : List Frame) (meth : Method) (c : Code) (T : State) (H : oH p l e room_1 s m #[.int p1, .int p2, .int p3, .int p4, .int p5, .int p6] below meth c code maxLocals x ret Z n0 T h0 2 1) :
    oG p e below s n0 40 2624 (fun v h => v = some (.int 1)) (T.setTop (mkF m 127 #[.val (.int p1), .val (.int p2), .val (.int p3), .val (.int p4), .val (.int p5), .val (.int p6), .val (.int ba), .val (.int va), .val (.int vb), .val (.int vc), .val (.int vk), .val (.int vu), .val (.int vx), .val (.ref a13), .unset] [])) := by
  refine o_iload H rfl at_127 rfl ?_
  refine o_iconst H (1 : Int32) rfl at_129 rfl ?_
  refine o_iand H at_130 rfl ?_
  refine o_if_eq H at_131 (pt := 141) (by decide) (by decide) rfl ?_ ?_
  · intro c131_1
    exact rmS2 l Z a0 hw p1 p2 p3 p4 p5 p6 ba va vb vc vk vu vx A B C U X a13 ws h0 n0 hA hA2 hB hB2 hC hC2 hU hU2 hX hX2 MM (by omega) (own_s1n hst (not_not_intro c131_1)) p e s m below meth c _ (H.more (by decide) (by decide))
  · intro c131_1
    refine o_aload H rfl rfl at_134 rfl ?_
    refine o_iload H rfl at_136 rfl ?_
    refine o_virtual H [(.int va)] [] (rm3_130 l Z a0 hw a13 va ws A A B C h0 n0 H.le MM hA (by omega) hn0 hst.sub (Or.inl rfl)) MM.exa (w14 hw) (w15 hw) (o_nf (w17 hw)) (w17 hw) (w16 hw) (w3 hw) (w18 hw) (by decide) (lenOf pd3 rfl) rfl rfl (by decide) (Nat.le_of_ble_eq_true rfl) (by decide) (by decide) at_138 rfl ?_
    intro T2 v2 h2 H2 q2
    obtain ⟨rfl, ws2, M2, hb2, hj2⟩ := q2
    show oG p e below s n0 _ _ _ (T2.setTop (mkF m 141 #[.val (.int p1), .val (.int p2), .val (.int p3), .val (.int p4), .val (.int p5), .val (.int p6), .val (.int ba), .val (.int va), .val (.int vb), .val (.int vc), .val (.int vk), .val (.int vu), .val (.int vx), .val (.ref a13), .unset] []))
    exact rmS2 l Z a0 hw p1 p2 p3 p4 p5 p6 ba va vb vc vk vu vx A B C U X a13 ws2 h2 n0 hA hA2 hB hB2 hC hC2 hU hU2 hX hX2 M2 hb2 (own_s1 hst hj2 c131_1) p e s m below meth c _ (H2.more (by decide) (by decide))
set_option maxRecDepth 65536 in
set_option maxHeartbeats 40000000 in
theorem rmS0 (l : Launch) (Z : State) (a0 : Array Value) (hw : ∀ d ∈ tables_1, d.before a0 Z = true) (p1 p2 p3 p4 p5 p6 ba va vb vc vk vu : Int32) (Ba A B C U : Nat) (h0 : Heap) (n0 : Nat) (hBa : ba.toInt = (Ba : Int)) (hBa2 : Ba ≤ 4095) (hA : va.toInt = (A : Int)) (hA2 : A ≤ 4222) (hB : vb.toInt = (B : Int)) (hB2 : B ≤ 4222) (hC : vc.toInt = (C : Int)) (hC2 : C ≤ 65535) (hU : vu.toInt = (U : Int)) (hU2 : U ≤ 262143) (p : Program) (e : Env) (s : State) (m : MethodId) (below : List Frame) (meth : Method) (c : Code) (T : State) (H : oH p l e room_1 s m #[.int p1, .int p2, .int p3, .int p4, .int p5, .int p6] below meth c code maxLocals x ret Z n0 T h0 0 0) :
    oG p e below s n0 40 2624 (fun v h => v = some (.int 1)) (T.setTop (mkF m 106 #[.val (.int p1), .val (.int p2), .val (.int p3), .val (.int p4), .val (.int p5), .val (.int p6), .val (.int ba), .val (.int va), .val (.int vb), .val (.int vc), .val (.int vk), .val (.int vu), .unset, .unset, .unset] [])) := by
  refine o_iload H rfl at_106 rfl ?_
  refine o_iload H rfl at_108 rfl ?_
  refine o_iconst H (4 : Int32) rfl at_110 rfl ?_
  refine o_iushr H at_111 rfl ?_
  refine o_bipush H (127 : Int32) rfl at_112 rfl ?_
  refine o_iand H at_114 rfl ?_
  refine o_iadd H at_115 rfl ?_
  refine o_istore H (L' := #[.val (.int p1), .val (.int p2), .val (.int p3), .val (.int p4), .val (.int p5), .val (.int p6), .val (.int ba), .val (.int va), .val (.int vb), .val (.int vc), .val (.int vk), .val (.int vu), .val (.int (ba + ((XT.ushr p6 (4 : Int32)) &&& (127 : Int32)))), .unset, .unset]) rfl at_116 rfl ?_
  obtain ⟨vx, e_vx⟩ : ∃ z : Int32, z = (ba + ((XT.ushr p6 (4 : Int32)) &&& (127 : Int32))) := ⟨_, rfl⟩
  rw [← e_vx]
  obtain ⟨X0, hX0, hX1⟩ := own_msk (XT.ushr p6 (4 : Int32)) 127 127 rfl
  have hX := own_add hBa hX0 (by omega)
  rw [show ba + (XT.ushr p6 (4 : Int32) &&& 127) = vx from e_vx.symm] at hX
  clear e_vx
  refine o_new H (w1 hw) (w2 hw) (w3 hw) at_118 rfl (by decide) (by decide) ?_
  intro T1 h1 b1 g1 H1 E1 A1 D1
  have z1 : n0 ≤ b1 := by rw [g1]; exact H.le
  have y1 : h0.size ≤ b1 := by rw [g1]; exact (Keep.refl h0 []).1
  have k2 := (Keep.refl h0 []).ext E1
  have f3 : Fld Z h1 b1 "com/example/following_sibling/followingsibling/MarkedIndexes" "levels" "[[J" .null := D1 (Or.inl (w13 hw)) (ty := (.array (.array .long))) (by decide)
  refine o_dup H1 rfl at_121 rfl ?_
  refine o_special H1 [] [(.ref b1)] (rm1 l Z a0 hw b1 h1 n0 H1.le A1 z1 f3) rfl (w4 hw) (w5 hw) (w3 hw) (w6 hw) (by decide) (lenOf pd1 rfl) rfl rfl (by decide) (Nat.le_of_ble_eq_true rfl) (by decide) (by decide) at_122 rfl ?_
  intro T4 v4 h4 H4 q4
  obtain ⟨rfl, M4⟩ := q4
  show oG p e below s n0 _ _ _ (T4.setTop (mkF m 125 #[.val (.int p1), .val (.int p2), .val (.int p3), .val (.int p4), .val (.int p5), .val (.int p6), .val (.int ba), .val (.int va), .val (.int vb), .val (.int vc), .val (.int vk), .val (.int vu), .val (.int vx), .unset, .unset] [(.ref b1)]))
  refine o_astore H4 (L' := #[.val (.int p1), .val (.int p2), .val (.int p3), .val (.int p4), .val (.int p5), .val (.int p6), .val (.int ba), .val (.int va), .val (.int vb), .val (.int vc), .val (.int vk), .val (.int vu), .val (.int vx), .val (.ref b1), .unset]) rfl rfl at_125 rfl ?_
  exact rmS1 l Z a0 hw p1 p2 p3 p4 p5 p6 ba va vb vc vk vu vx A B C U _ b1 [] h4 n0 hA hA2 hB hB2 hC hC2 hU hU2 hX (by omega) M4 (by simp) own_st0 p e s m below meth c _ (H4.more (by decide) (by decide))
set_option maxRecDepth 65536 in
set_option maxHeartbeats 40000000 in
theorem rm0 (l : Launch) (Z : State) (a0 : Array Value) (hw : ∀ d ∈ tables_1, d.before a0 Z = true) (p1 : Int32) (p2 : Int32) (p3 : Int32) (p4 : Int32) (p5 : Int32) (p6 : Int32)  (h0 : Heap) (n0 : Nat) (Z0 : n0 ≤ h0.size)  :
    oC l Z n0 x code maxLocals ret room_1 40 2624 #[(.int p1), (.int p2), (.int p3), (.int p4), (.int p5), (.int p6)] h0 (fun v h => v = some (.int 1)) := by
  refine oC.of (L := #[.val (.int p1), .val (.int p2), .val (.int p3), .val (.int p4), .val (.int p5), .val (.int p6), .unset, .unset, .unset, .unset, .unset, .unset, .unset, .unset, .unset]) pn0 Z0 (fun m => by first | (simp [entryFrame, mkF, argsToLocals, Value.category, maxLocals]; done) | rfl) ?_
  intro p e s m below meth c T H
  refine o_iloadN H rfl at_0 rfl ?_
  refine o_sipush H (4095 : Int32) rfl at_1 rfl ?_
  refine o_iand H at_4 rfl ?_
  refine o_istore H (L' := #[.val (.int p1), .val (.int p2), .val (.int p3), .val (.int p4), .val (.int p5), .val (.int p6), .val (.int (p1 &&& (4095 : Int32))), .unset, .unset, .unset, .unset, .unset, .unset, .unset, .unset]) rfl at_5 rfl ?_
  obtain ⟨ba, e_ba⟩ : ∃ z : Int32, z = (p1 &&& (4095 : Int32)) := ⟨_, rfl⟩
  rw [← e_ba]
  obtain ⟨Ba, hBa, hBa2⟩ := own_msk p1 4095 4095 rfl
  rw [← e_ba] at hBa
  refine o_iload H rfl at_7 rfl ?_
  refine o_iloadN H rfl at_9 rfl ?_
  refine o_bipush H (127 : Int32) rfl at_10 rfl ?_
  refine o_iand H at_12 rfl ?_
  refine o_iadd H at_13 rfl ?_
  refine o_istore H (L' := #[.val (.int p1), .val (.int p2), .val (.int p3), .val (.int p4), .val (.int p5), .val (.int p6), .val (.int ba), .val (.int (ba + (p2 &&& (127 : Int32)))), .unset, .unset, .unset, .unset, .unset, .unset, .unset]) rfl at_14 rfl ?_
  obtain ⟨va, e_va⟩ : ∃ z : Int32, z = (ba + (p2 &&& (127 : Int32))) := ⟨_, rfl⟩
  rw [← e_va]
  obtain ⟨A0, hA0, hA1⟩ := own_msk p2 127 127 rfl
  have hA := own_add hBa hA0 (by omega)
  rw [← e_va] at hA
  refine o_iload H rfl at_16 rfl ?_
  refine o_iloadN H rfl at_18 rfl ?_
  refine o_bipush H (127 : Int32) rfl at_19 rfl ?_
  refine o_iand H at_21 rfl ?_
  refine o_iadd H at_22 rfl ?_
  refine o_istore H (L' := #[.val (.int p1), .val (.int p2), .val (.int p3), .val (.int p4), .val (.int p5), .val (.int p6), .val (.int ba), .val (.int va), .val (.int (ba + (p3 &&& (127 : Int32)))), .unset, .unset, .unset, .unset, .unset, .unset]) rfl at_23 rfl ?_
  obtain ⟨vb, e_vb⟩ : ∃ z : Int32, z = (ba + (p3 &&& (127 : Int32))) := ⟨_, rfl⟩
  rw [← e_vb]
  obtain ⟨B0, hB0, hB1⟩ := own_msk p3 127 127 rfl
  have hB := own_add hBa hB0 (by omega)
  rw [← e_vb] at hB
  refine o_iloadN H rfl at_25 rfl ?_
  refine o_ldcI H (65535 : Int32) (w0 hw) at_26 rfl ?_
  refine o_iand H at_28 rfl ?_
  refine o_istore H (L' := #[.val (.int p1), .val (.int p2), .val (.int p3), .val (.int p4), .val (.int p5), .val (.int p6), .val (.int ba), .val (.int va), .val (.int vb), .val (.int (p4 &&& (65535 : Int32))), .unset, .unset, .unset, .unset, .unset]) rfl at_29 rfl ?_
  obtain ⟨vc, e_vc⟩ : ∃ z : Int32, z = (p4 &&& (65535 : Int32)) := ⟨_, rfl⟩
  rw [← e_vc]
  obtain ⟨C, hC, hC2⟩ := own_msk p4 65535 65535 rfl
  rw [← e_vc] at hC
  refine o_iload H rfl at_31 rfl ?_
  refine o_bipush H (7 : Int32) rfl at_33 rfl ?_
  refine o_iand H at_35 rfl ?_
  refine o_istore H (L' := #[.val (.int p1), .val (.int p2), .val (.int p3), .val (.int p4), .val (.int p5), .val (.int p6), .val (.int ba), .val (.int va), .val (.int vb), .val (.int vc), .val (.int (p5 &&& (7 : Int32))), .unset, .unset, .unset, .unset]) rfl at_36 rfl ?_
  obtain ⟨vk, e_vk⟩ : ∃ z : Int32, z = (p5 &&& (7 : Int32)) := ⟨_, rfl⟩
  rw [← e_vk]
  refine o_iload H rfl at_38 rfl ?_
  refine o_if_ne H at_40 (pt := 50) (by decide) (by decide) rfl ?_ ?_
  · intro c40_1
    refine o_iload H rfl at_50 rfl ?_
    refine o_iconst H (1 : Int32) rfl at_52 rfl ?_
    refine o_icmp_ne H at_53 (pt := 63) (by decide) (by decide) rfl ?_ ?_
    · intro c53_2
      refine o_iload H rfl at_63 rfl ?_
      refine o_iconst H (2 : Int32) rfl at_65 rfl ?_
      refine o_icmp_ne H at_66 (pt := 76) (by decide) (by decide) rfl ?_ ?_
      · intro c66_3
        refine o_iload H rfl at_76 rfl ?_
        refine o_iconst H (3 : Int32) rfl at_78 rfl ?_
        refine o_icmp_ne H at_79 (pt := 97) (by decide) (by decide) rfl ?_ ?_
        · intro c79_4
          refine o_iload H rfl at_97 rfl ?_
          refine o_iconst H (3 : Int32) rfl at_99 rfl ?_
          refine o_iushr H at_100 rfl ?_
          refine o_ldcI H (262143 : Int32) (w71 hw) at_101 rfl ?_
          refine o_iand H at_103 rfl ?_
          refine o_istore H (L' := #[.val (.int p1), .val (.int p2), .val (.int p3), .val (.int p4), .val (.int p5), .val (.int p6), .val (.int ba), .val (.int va), .val (.int vb), .val (.int vc), .val (.int vk), .val (.int ((XT.ushr p5 (3 : Int32)) &&& (262143 : Int32))), .unset, .unset, .unset]) rfl at_104 rfl ?_
          obtain ⟨U0, hU0, hU1⟩ := own_msk (XT.ushr p5 (3 : Int32)) 262143 262143 rfl
          exact rmS0 l Z a0 hw p1 p2 p3 p4 p5 p6 ba va vb vc vk _ Ba _ _ C _ h0 n0 hBa hBa2 hA (by omega) hB (by omega) hC hC2 hU0 (by omega) p e s m below meth c _ H
        · intro c79_4
          refine o_iload H rfl at_82 rfl ?_
          refine o_iload H rfl at_84 rfl ?_
          refine o_iconst H (3 : Int32) rfl at_86 rfl ?_
          refine o_iushr H at_87 rfl ?_
          refine o_bipush H (127 : Int32) rfl at_88 rfl ?_
          refine o_iand H at_90 rfl ?_
          refine o_iadd H at_91 rfl ?_
          refine o_istore H (L' := #[.val (.int p1), .val (.int p2), .val (.int p3), .val (.int p4), .val (.int p5), .val (.int p6), .val (.int ba), .val (.int va), .val (.int vb), .val (.int vc), .val (.int vk), .val (.int (ba + ((XT.ushr p5 (3 : Int32)) &&& (127 : Int32)))), .unset, .unset, .unset]) rfl at_92 rfl ?_
          refine o_goto H at_94 (pt := 106) (by decide) (by decide) ?_
          obtain ⟨U0, hU0, hU1⟩ := own_msk (XT.ushr p5 (3 : Int32)) 127 127 rfl
          have hU := own_add hBa hU0 (by omega)
          exact rmS0 l Z a0 hw p1 p2 p3 p4 p5 p6 ba va vb vc vk _ Ba _ _ C _ h0 n0 hBa hBa2 hA (by omega) hB (by omega) hC hC2 hU (by omega) p e s m below meth c _ H
      · intro c66_3
        refine o_iload H rfl at_69 rfl ?_
        refine o_istore H (L' := #[.val (.int p1), .val (.int p2), .val (.int p3), .val (.int p4), .val (.int p5), .val (.int p6), .val (.int ba), .val (.int va), .val (.int vb), .val (.int vc), .val (.int vk), .val (.int vc), .unset, .unset, .unset]) rfl at_71 rfl ?_
        refine o_goto H at_73 (pt := 106) (by decide) (by decide) ?_
        exact rmS0 l Z a0 hw p1 p2 p3 p4 p5 p6 ba va vb vc vk vc Ba _ _ C _ h0 n0 hBa hBa2 hA (by omega) hB (by omega) hC hC2 hC (by omega) p e s m below meth c _ H
    · intro c53_2
      refine o_iload H rfl at_56 rfl ?_
      refine o_istore H (L' := #[.val (.int p1), .val (.int p2), .val (.int p3), .val (.int p4), .val (.int p5), .val (.int p6), .val (.int ba), .val (.int va), .val (.int vb), .val (.int vc), .val (.int vk), .val (.int vb), .unset, .unset, .unset]) rfl at_58 rfl ?_
      refine o_goto H at_60 (pt := 106) (by decide) (by decide) ?_
      exact rmS0 l Z a0 hw p1 p2 p3 p4 p5 p6 ba va vb vc vk vb Ba _ _ C _ h0 n0 hBa hBa2 hA (by omega) hB (by omega) hC hC2 hB (by omega) p e s m below meth c _ H
  · intro c40_1
    refine o_iload H rfl at_43 rfl ?_
    refine o_istore H (L' := #[.val (.int p1), .val (.int p2), .val (.int p3), .val (.int p4), .val (.int p5), .val (.int p6), .val (.int ba), .val (.int va), .val (.int vb), .val (.int vc), .val (.int vk), .val (.int va), .unset, .unset, .unset]) rfl at_45 rfl ?_
    refine o_goto H at_47 (pt := 106) (by decide) (by decide) ?_
    exact rmS0 l Z a0 hw p1 p2 p3 p4 p5 p6 ba va vb vc vk va Ba _ _ C _ h0 n0 hBa hBa2 hA (by omega) hB (by omega) hC hC2 hA (by omega) p e s m below meth c _ H
set_option maxRecDepth 65536 in
set_option maxHeartbeats 40000000 in
theorem comes_1 {Post : Tables → Env → Array Value → State → Outcome → State → Prop} (hpost : ∀ tb e args s v u, (limb_1_1.after args s (.returned v) u = true ∧ limb_1_2.after args s (.returned v) u = true ∧ True) → FrameEnd s (.returned v) u (Jvm.fieldLocs frame_1_writes args s ++ Jvm.arrayLocs frame_1_arrays args s ++ Jvm.staticLocs frame_1_statics s) 40 2624 → Post tb e args s (.returned v) u) :
    ArmFor flags0 classFile x code maxLocals ret World_1 tables_1 room_1 Calls_1 rest_1 Pre_1 Post := by
  intro l hfl _ _ p e ha hc hk s m args below hf hA hF happ hP
  obtain ⟨hcalls, hrest, hpre⟩ := hP
  obtain ⟨-, -, -, hnamed, -, -, -, hat⟩ := (Spec.applies_iff hf).mp happ
  obtain ⟨hg, hn⟩ := and_e (Cond.before_iff.mp (show (Jvm.Cond.and given_1 narrow_1).before args s = true from hpre))
  obtain ⟨g0, gs0⟩ := and_e hg
  obtain ⟨a0, gs1⟩ := and_e gs0
  obtain ⟨a1, gs2⟩ := and_e gs1
  obtain ⟨a2, gs3⟩ := and_e gs2
  obtain ⟨a3, gs4⟩ := and_e gs3
  obtain ⟨a4, gs5⟩ := and_e gs4
  have a5 := gs5
  obtain ⟨w0, w1, w2, w3, w4, w5, rfl⟩ : ∃ w0 w1 w2 w3 w4 w5 : Value, args = #[w0, w1, w2, w3, w4, w5] := by
    have hs : args.size = 6 := by simpa [Cond.value, given_1] using g0
    obtain ⟨L⟩ := args
    match L, hs with
    | [w0, w1, w2, w3, w4, w5], _ => exact ⟨w0, w1, w2, w3, w4, w5, rfl⟩
  have hw := fun d (hd : d ∈ tables_1) => atoms_spec (ws := Jvm.Cond.code x code maxLocals ret :: tables_1) hat d (List.mem_cons_of_mem _ hd)
  have hfit : Fit s := fun {y c} hc i hi => by
    obtain ⟨ha, rfl⟩ := Array.getElem?_eq_some_iff.mp hc
    have q := List.all_eq_true.mp ((Array.all_eq_true_iff_forall_mem.mp hF) _ (Array.getElem_mem ha)) i (List.mem_range.mpr hi)
    simpa [Array.getElem?_eq_getElem hi] using q
  obtain ⟨i0, e0⟩ := is_v a0
  obtain rfl : w0 = (.int i0) := Option.some.inj e0
  obtain ⟨i1, e1⟩ := is_v a1
  obtain rfl : w1 = (.int i1) := Option.some.inj e1
  obtain ⟨i2, e2⟩ := is_v a2
  obtain rfl : w2 = (.int i2) := Option.some.inj e2
  obtain ⟨i3, e3⟩ := is_v a3
  obtain rfl : w3 = (.int i3) := Option.some.inj e3
  obtain ⟨i4, e4⟩ := is_v a4
  obtain rfl : w4 = (.int i4) := Option.some.inj e4
  obtain ⟨i5, e5⟩ := is_v a5
  obtain rfl : w5 = (.int i5) := Option.some.inj e5
  obtain ⟨n, o, h1, h2, h3, _, L, rfl, ⟨rfl, N⟩, hq⟩ := rm0 l s _ hw i0 i1 i2 i3 i4 i5  s.heap s.heap.size (Nat.le_refl _)  tables_1 p e ha hc hk s m _ below hf ((Spec.applies_iff_loose hf).mp happ).1 ⟨rfl, State.Warmed39.refl s, rfl⟩ trivial
  refine ⟨n, _, h1, h2, h3, hpost _ _ _ _ _ _ ⟨Cond.after_iff.mpr rfl, Cond.after_iff.mpr (eq_i res_at (Term.int_eval (1)) rfl), trivial⟩ ⟨hq.1, hq.2.1, (hq.2.2.sift fun y hy => Or.inr (N y hy)).mono (by decide) (by decide)⟩⟩
theorem main_1_1 : Claimed_1_1 := comes_1 fun _ _ _ _ _ _ h hF => ⟨h.1, hF⟩
theorem main_1_2 : Claimed_1_2 := comes_1 fun _ _ _ _ _ _ h hF => ⟨h.2.1, hF⟩
end Jvm.Pilot.@@N@@
namespace Jvm.Pilot.@@N@@
open Jvm Jvm.ClassFile Sem Op Lib Jvm.Free Jvm.Stand Jvm.Pilot.@@N@@.Jvm.D
/-! MADE BY PROGRAM (witnessworld.py) out of the Statement's table words and the real class files: 21 classes; the members and pool entries that the words name. The judged class is class 1, her method 3. -/
namespace start1
open Jvm.ClassFile
def u (s : String) : CpInfo := .utf8 (stringToUtf16 s)
/-- a pool by its gaps: so many unusable entries, then the entry; so many at the end -/
def gap : Nat → List CpInfo → List CpInfo
  | 0, r => r
  | n + 1, r => .unusable :: gap n r
def poolList (es : List (Nat × CpInfo)) (last : Nat) : List CpInfo := es.foldr (fun e r => gap e.1 (e.2 :: r)) (gap last [])
def pool (es : List (Nat × CpInfo)) (last : Nat) : Array CpInfo := ⟨poolList es last⟩
def fileOf (pool : Array CpInfo) (this : Nat) (attrs : Array Attribute := #[]) (ms : Array MethodInfo := #[]) (fl : Nat := 33) (sup : Nat := 0) (ifs : Array Nat := #[]) (fds : Array FieldInfo := #[]) : ClassFile where
  minorVersion := 0
  majorVersion := 65
  constantPool := pool
  accessFlags := fl
  thisClass := this
  superClass := sup
  interfaces := ifs
  fields := fds
  methods := ms
  attributes := attrs
def plain (name : String) (sup : Option ClassId) : Class where
  name := name
  kind := .ordinary
  loader := none
  accessFlags := 33
  super := sup
  interfaces := #[]
  cf := none
  fields := #[]
  methods := #[]
  instanceTypes := #[]
  staticTypes := #[]
  resolved := #[]
  callSites := []
  init := .initialized
  statics := none
  mirror := none

def pool0 : Array CpInfo := pool [(5, u "<init>"), (0, u "()V"), (1, .class_ 10), (1, u "java/lang/Object")] 113

def k0c0 : Code := { maxStack := 0, maxLocals := 1, code := object_method_1_code, exceptionTable := #[], attributes := #[] }
def k0m0 : Method := { name := "<init>", desc := "()V", sig := { parameters := [], returnType := none }, accessFlags := 1, code := some k0c0 }
/-- java/lang/Object -/
def k0 : Class := { plain "java/lang/Object" none with
  accessFlags := 33
  interfaces := #[]
  cf := some (fileOf pool0 8 #[] #[{ accessFlags := 1, nameIndex := 5, descriptorIndex := 6, attributes := #[] }] 33 0 #[] #[])
  fields := #[]
  methods := #[k0m0]
  instanceTypes := #[]
  staticTypes := #[]
  resolved := Array.replicate 124 none
  statics := none }

def pool1 : Array CpInfo := pool [(2, .class_ 4), (0, .nameAndType 5 6), (0, u "java/lang/Object"), (0, u "<init>"), (0, u "()V"), (0, .methodref 8 9), (0, .class_ 10), (0, .nameAndType 11 12), (0, u "com/example/following_sibling/followingsibling/MarkedIndexesUnmarkPinLaw"), (0, u "in"), (0, u "(IIIIII)Z"), (0, .integer 65535), (0, .integer 262143), (0, .class_ 16), (0, u "com/example/following_sibling/followingsibling/MarkedIndexes"), (0, .methodref 15 3), (0, .methodref 15 19), (0, .nameAndType 20 21), (0, u "mark"), (0, u "(I)V"), (0, .methodref 15 23), (0, .nameAndType 24 21), (0, u "unmark"), (0, .methodref 15 26), (0, .nameAndType 27 28), (0, u "nextUnmarked"), (0, u "(I)I"), (0, .methodref 8 30), (0, .nameAndType 31 32), (0, u "next"), (0, u "(IIIIII)I"), (3, u "law")] 2

def k1m0 : Method := { name := "<init>", desc := "()V", sig := { parameters := [], returnType := none }, accessFlags := 1, code := none }
def k1c1 : Code := { maxStack := 2, maxLocals := 6, code := method_2_code, exceptionTable := #[], attributes := #[] }
def k1m1 : Method := { name := "in", desc := "(IIIIII)Z", sig := { parameters := [.int, .int, .int, .int, .int, .int], returnType := some .boolean }, accessFlags := 10, code := some k1c1 }
def k1c2 : Code := { maxStack := 6, maxLocals := 7, code := method_3_code, exceptionTable := #[], attributes := #[] }
def k1m2 : Method := { name := "next", desc := "(IIIIII)I", sig := { parameters := [.int, .int, .int, .int, .int, .int], returnType := some .int }, accessFlags := 10, code := some k1c2 }
def k1c3 : Code := { maxStack := 7, maxLocals := 15, code := code, exceptionTable := #[], attributes := #[] }
def k1m3 : Method := { name := "law", desc := "(IIIIII)Z", sig := { parameters := [.int, .int, .int, .int, .int, .int], returnType := some .boolean }, accessFlags := 9, code := some k1c3 }
/-- com/example/following_sibling/followingsibling/MarkedIndexesUnmarkPinLaw -/
def k1 : Class := { plain "com/example/following_sibling/followingsibling/MarkedIndexesUnmarkPinLaw" (some 0) with
  accessFlags := 49
  interfaces := #[]
  cf := some (fileOf pool1 8 #[] #[{ accessFlags := 1, nameIndex := 5, descriptorIndex := 6, attributes := #[] }, { accessFlags := 10, nameIndex := 11, descriptorIndex := 12, attributes := #[] }, { accessFlags := 10, nameIndex := 31, descriptorIndex := 32, attributes := #[] }, { accessFlags := 9, nameIndex := 36, descriptorIndex := 12, attributes := #[] }] 49 2 #[] #[])
  fields := #[]
  methods := #[k1m0, k1m1, k1m2, k1m3]
  instanceTypes := #[]
  staticTypes := #[]
  resolved := Array.replicate 39 none
  statics := none }

def pool2 : Array CpInfo := pool [(1, .class_ 2), (0, u "java/lang/Long"), (0, .methodref 4 5), (0, .class_ 6), (0, .nameAndType 7 8), (0, u "java/lang/Object"), (0, u "<init>"), (0, u "()V"), (0, .class_ 10), (0, u "[J"), (0, .fieldref 12 13), (0, .class_ 14), (0, .nameAndType 15 16), (0, u "com/example/following_sibling/followingsibling/MarkedIndexes"), (0, u "levels"), (0, u "[[J"), (0, .methodref 12 18), (0, .nameAndType 19 20), (0, u "nextClear"), (0, u "(II)I"), (2, u "nextUnmarked"), (0, u "(I)I"), (4, .long 18446744073709551615), (2, .class_ 34), (1, u "java/lang/Math"), (1, .methodref 1 37), (0, .nameAndType 38 39), (0, u "numberOfTrailingZeros"), (0, u "(J)I"), (6, .methodref 12 47), (0, .nameAndType 48 49), (0, u "grow"), (0, u "(I)V"), (0, .methodref 32 51), (0, .nameAndType 52 20), (0, u "max"), (0, .methodref 54 55), (0, .class_ 56), (0, .nameAndType 57 58), (0, u "java/util/Arrays"), (0, u "copyOf"), (0, u "([JI)[J"), (0, u "WORD"), (0, u "I"), (2, u "FULL"), (0, u "J"), (5, u "mark"), (0, u "unmark")] 3

def k2c0 : Code := { maxStack := 2, maxLocals := 1, code := prog_62_method_1_code, exceptionTable := #[], attributes := #[] }
def k2m0 : Method := { name := "<init>", desc := "()V", sig := { parameters := [], returnType := none }, accessFlags := 0, code := some k2c0 }
def k2c1 : Code := { maxStack := 3, maxLocals := 2, code := prog_62_method_2_code, exceptionTable := #[], attributes := #[] }
def k2m1 : Method := { name := "nextUnmarked", desc := "(I)I", sig := { parameters := [.int], returnType := some .int }, accessFlags := 0, code := some k2c1 }
def k2c2 : Code := { maxStack := 7, maxLocals := 5, code := prog_62_method_4_code, exceptionTable := #[], attributes := #[] }
def k2m2 : Method := { name := "mark", desc := "(I)V", sig := { parameters := [.int], returnType := none }, accessFlags := 0, code := some k2c2 }
def k2c3 : Code := { maxStack := 8, maxLocals := 7, code := prog_62_method_5_code, exceptionTable := #[], attributes := #[] }
def k2m3 : Method := { name := "unmark", desc := "(I)V", sig := { parameters := [.int], returnType := none }, accessFlags := 0, code := some k2c3 }
def k2c4 : Code := { maxStack := 6, maxLocals := 7, code := prog_62_method_7_code, exceptionTable := #[], attributes := #[] }
def k2m4 : Method := { name := "nextClear", desc := "(II)I", sig := { parameters := [.int, .int], returnType := some .int }, accessFlags := 2, code := some k2c4 }
def k2c5 : Code := { maxStack := 7, maxLocals := 10, code := prog_62_method_8_code, exceptionTable := #[], attributes := #[] }
def k2m5 : Method := { name := "grow", desc := "(I)V", sig := { parameters := [.int], returnType := none }, accessFlags := 2, code := some k2c5 }
/-- com/example/following_sibling/followingsibling/MarkedIndexes -/
def k2 : Class := { plain "com/example/following_sibling/followingsibling/MarkedIndexes" (some 0) with
  accessFlags := 48
  interfaces := #[]
  cf := some (fileOf pool2 12 #[] #[{ accessFlags := 0, nameIndex := 7, descriptorIndex := 8, attributes := #[] }, { accessFlags := 0, nameIndex := 23, descriptorIndex := 24, attributes := #[] }, { accessFlags := 0, nameIndex := 70, descriptorIndex := 49, attributes := #[] }, { accessFlags := 0, nameIndex := 71, descriptorIndex := 49, attributes := #[] }, { accessFlags := 2, nameIndex := 19, descriptorIndex := 20, attributes := #[] }, { accessFlags := 2, nameIndex := 48, descriptorIndex := 49, attributes := #[] }] 48 4 #[] #[{ accessFlags := 26, nameIndex := 59, descriptorIndex := 60, attributes := #[] }, { accessFlags := 26, nameIndex := 63, descriptorIndex := 64, attributes := #[] }, { accessFlags := 2, nameIndex := 15, descriptorIndex := 16, attributes := #[] }])
  fields := #[{ name := "WORD", type := .int, accessFlags := 26, slot := 0, constantValue := 0 }, { name := "FULL", type := .long, accessFlags := 26, slot := 1, constantValue := 0 }, { name := "levels", type := (.array (.array .long)), accessFlags := 2, slot := 0, constantValue := 0 }]
  methods := #[k2m0, k2m1, k2m2, k2m3, k2m4, k2m5]
  instanceTypes := #[(.array (.array .long))]
  staticTypes := #[.int, .long]
  resolved := Array.replicate 75 none
  statics := none }

def pool3 : Array CpInfo := pool [(1, .class_ 2), (0, u "java/lang/Math"), (1, .class_ 6), (1, u "java/lang/Object"), (0, u "<init>"), (0, u "()V"), (89, .class_ 100), (1, u "java/lang/Math$RandomNumberGeneratorHolder"), (71, u "negativeZeroFloatBits"), (0, u "J"), (2, u "negativeZeroDoubleBits"), (21, u "max"), (2, u "min"), (43, u "$assertionsDisabled"), (0, u "Z"), (88, u "(II)I"), (2, u "twoToTheDoubleScaleDown"), (0, u "D"), (4, u "twoToTheDoubleScaleUp"), (9, u "E"), (3, u "PI"), (2, u "TAU"), (2, u "DEGREES_TO_RADIANS"), (0, u "RADIANS_TO_DEGREES")] 94

def k3m0 : Method := { name := "<init>", desc := "()V", sig := { parameters := [], returnType := none }, accessFlags := 2, code := none }
def k3c1 : Code := { maxStack := 2, maxLocals := 2, code := jdk_29_method_65_code, exceptionTable := #[], attributes := #[] }
def k3m1 : Method := { name := "max", desc := "(II)I", sig := { parameters := [.int, .int], returnType := some .int }, accessFlags := 9, code := some k3c1 }
def k3c2 : Code := { maxStack := 2, maxLocals := 2, code := jdk_29_method_69_code, exceptionTable := #[], attributes := #[] }
def k3m2 : Method := { name := "min", desc := "(II)I", sig := { parameters := [.int, .int], returnType := some .int }, accessFlags := 9, code := some k3c2 }
/-- java/lang/Math -/
def k3 : Class := { plain "java/lang/Math" (some 0) with
  accessFlags := 49
  interfaces := #[]
  cf := some (fileOf pool3 1 #[.nestMembers #[98]] #[{ accessFlags := 2, nameIndex := 7, descriptorIndex := 8, attributes := #[] }, { accessFlags := 9, nameIndex := 198, descriptorIndex := 335, attributes := #[] }, { accessFlags := 9, nameIndex := 201, descriptorIndex := 335, attributes := #[] }] 49 4 #[] #[{ accessFlags := 25, nameIndex := 354, descriptorIndex := 339, attributes := #[] }, { accessFlags := 25, nameIndex := 358, descriptorIndex := 339, attributes := #[] }, { accessFlags := 25, nameIndex := 361, descriptorIndex := 339, attributes := #[] }, { accessFlags := 26, nameIndex := 364, descriptorIndex := 339, attributes := #[] }, { accessFlags := 26, nameIndex := 365, descriptorIndex := 339, attributes := #[] }, { accessFlags := 26, nameIndex := 172, descriptorIndex := 173, attributes := #[] }, { accessFlags := 26, nameIndex := 176, descriptorIndex := 173, attributes := #[] }, { accessFlags := 8, nameIndex := 344, descriptorIndex := 339, attributes := #[] }, { accessFlags := 8, nameIndex := 338, descriptorIndex := 339, attributes := #[] }, { accessFlags := 4120, nameIndex := 245, descriptorIndex := 246, attributes := #[] }])
  fields := #[{ name := "E", type := .double, accessFlags := 25, slot := 0, constantValue := 0 }, { name := "PI", type := .double, accessFlags := 25, slot := 1, constantValue := 0 }, { name := "TAU", type := .double, accessFlags := 25, slot := 2, constantValue := 0 }, { name := "DEGREES_TO_RADIANS", type := .double, accessFlags := 26, slot := 3, constantValue := 0 }, { name := "RADIANS_TO_DEGREES", type := .double, accessFlags := 26, slot := 4, constantValue := 0 }, { name := "negativeZeroFloatBits", type := .long, accessFlags := 26, slot := 5, constantValue := 0 }, { name := "negativeZeroDoubleBits", type := .long, accessFlags := 26, slot := 6, constantValue := 0 }, { name := "twoToTheDoubleScaleUp", type := .double, accessFlags := 8, slot := 7, constantValue := 0 }, { name := "twoToTheDoubleScaleDown", type := .double, accessFlags := 8, slot := 8, constantValue := 0 }, { name := "$assertionsDisabled", type := .boolean, accessFlags := 4120, slot := 9, constantValue := 0 }]
  methods := #[k3m0, k3m1, k3m2]
  instanceTypes := #[]
  staticTypes := #[.double, .double, .double, .double, .double, .long, .long, .double, .double, .boolean]
  resolved := Array.replicate 460 none
  statics := none }

def pool4 : Array CpInfo := pool [(2, .class_ 4), (1, u "java/lang/Object"), (0, u "<init>"), (0, u "()V"), (7, .class_ 16), (1, u "java/util/Arrays"), (57, .class_ 76), (1, u "java/util/Arrays$NaturalOrder"), (36, .class_ 115), (1, u "java/util/Arrays$LegacyMergeSort"), (1, u "Z"), (32, .methodref 151 152), (0, .class_ 153), (0, .nameAndType 154 155), (0, u "java/lang/System"), (0, u "arraycopy"), (0, u "(Ljava/lang/Object;ILjava/lang/Object;II)V"), (146, u "copyOf"), (1, .methodref 305 306), (0, .class_ 307), (0, .nameAndType 308 309), (0, u "java/lang/Math"), (0, u "min"), (0, u "(II)I"), (65, .class_ 376), (0, u "java/util/Arrays$ArrayList"), (68, u "$assertionsDisabled"), (269, u "MIN_ARRAY_SORT_GRAN"), (0, u "I"), (2, u "INSERTIONSORT_THRESHOLD"), (152, u "([JI)[J"), (102, .class_ 976), (0, u "java/util/Arrays$ArrayItr")] 52

def k4m0 : Method := { name := "<init>", desc := "()V", sig := { parameters := [], returnType := none }, accessFlags := 2, code := none }
def k4c1 : Code := { maxStack := 6, maxLocals := 3, code := jdk_65_method_124_code, exceptionTable := #[], attributes := #[] }
def k4m1 : Method := { name := "copyOf", desc := "([JI)[J", sig := { parameters := [(.array .long), .int], returnType := some (.array .long) }, accessFlags := 9, code := some k4c1 }
/-- java/util/Arrays -/
def k4 : Class := { plain "java/util/Arrays" (some 0) with
  accessFlags := 49
  interfaces := #[]
  cf := some (fileOf pool4 14 #[.nestMembers #[975, 375, 113, 74]] #[{ accessFlags := 2, nameIndex := 5, descriptorIndex := 6, attributes := #[] }, { accessFlags := 9, nameIndex := 302, descriptorIndex := 872, attributes := #[] }] 49 2 #[] #[{ accessFlags := 26, nameIndex := 715, descriptorIndex := 716, attributes := #[] }, { accessFlags := 26, nameIndex := 719, descriptorIndex := 716, attributes := #[] }, { accessFlags := 4120, nameIndex := 445, descriptorIndex := 117, attributes := #[] }])
  fields := #[{ name := "MIN_ARRAY_SORT_GRAN", type := .int, accessFlags := 26, slot := 0, constantValue := 0 }, { name := "INSERTIONSORT_THRESHOLD", type := .int, accessFlags := 26, slot := 1, constantValue := 0 }, { name := "$assertionsDisabled", type := .boolean, accessFlags := 4120, slot := 2, constantValue := 0 }]
  methods := #[k4m0, k4m1]
  instanceTypes := #[]
  staticTypes := #[.int, .int, .boolean]
  resolved := Array.replicate 1029 none
  statics := none }

def pool5 : Array CpInfo := pool [(2, .class_ 4), (1, u "java/lang/Object"), (0, u "<init>"), (0, u "()V"), (1, .class_ 10), (1, u "java/lang/System"), (0, u "allowSecurityManager"), (0, u "I"), (16, u "cons"), (0, u "Ljava/io/Console;"), (77, .class_ 110), (1, u "java/lang/System$CallersHolder"), (43, u "initialErrStream"), (0, u "Ljava/io/PrintStream;"), (19, u "security"), (0, u "Ljava/lang/SecurityManager;"), (31, .class_ 209), (0, u "java/lang/System$1"), (7, u "props"), (0, u "Ljava/util/Properties;"), (2, u "lineSeparator"), (0, u "Ljava/lang/String;"), (96, .class_ 321), (1, u "java/lang/System$LoggerFinder"), (5, .class_ 328), (0, u "java/lang/System$Logger"), (67, u "err"), (2, u "out"), (91, u "notSupportedJnuEncoding"), (15, u "in"), (17, u "initialIn"), (0, u "Ljava/io/InputStream;"), (35, u "bootLayer"), (0, u "Ljava/lang/ModuleLayer;"), (99, .class_ 664), (0, u "java/lang/System$2"), (9, u "NEVER"), (2, u "MAYBE"), (49, u "arraycopy"), (0, u "(Ljava/lang/Object;ILjava/lang/Object;II)V"), (72, .class_ 802), (0, u "java/lang/System$Logger$Level")] 31

def k5m0 : Method := { name := "<init>", desc := "()V", sig := { parameters := [], returnType := none }, accessFlags := 2, code := none }
def k5m1 : Method := { name := "arraycopy", desc := "(Ljava/lang/Object;ILjava/lang/Object;II)V", sig := { parameters := [(.object "java/lang/Object"), .int, (.object "java/lang/Object"), .int, .int], returnType := none }, accessFlags := 265, code := none }
/-- java/lang/System -/
def k5 : Class := { plain "java/lang/System" (some 0) with
  accessFlags := 49
  interfaces := #[]
  cf := some (fileOf pool5 8 #[.nestMembers #[319, 327, 801, 108, 663, 208]] #[{ accessFlags := 2, nameIndex := 5, descriptorIndex := 6, attributes := #[] }, { accessFlags := 265, nameIndex := 727, descriptorIndex := 728, attributes := #[] }] 49 2 #[] #[{ accessFlags := 25, nameIndex := 507, descriptorIndex := 526, attributes := #[] }, { accessFlags := 25, nameIndex := 399, descriptorIndex := 155, attributes := #[] }, { accessFlags := 25, nameIndex := 396, descriptorIndex := 155, attributes := #[] }, { accessFlags := 10, nameIndex := 525, descriptorIndex := 526, attributes := #[] }, { accessFlags := 26, nameIndex := 674, descriptorIndex := 12, attributes := #[] }, { accessFlags := 26, nameIndex := 677, descriptorIndex := 12, attributes := #[] }, { accessFlags := 10, nameIndex := 11, descriptorIndex := 12, attributes := #[] }, { accessFlags := 74, nameIndex := 175, descriptorIndex := 176, attributes := #[] }, { accessFlags := 10, nameIndex := 491, descriptorIndex := 222, attributes := #[] }, { accessFlags := 74, nameIndex := 29, descriptorIndex := 30, attributes := #[] }, { accessFlags := 74, nameIndex := 154, descriptorIndex := 155, attributes := #[] }, { accessFlags := 10, nameIndex := 217, descriptorIndex := 218, attributes := #[] }, { accessFlags := 10, nameIndex := 221, descriptorIndex := 222, attributes := #[] }, { accessFlags := 8, nameIndex := 562, descriptorIndex := 563, attributes := #[] }])
  fields := #[{ name := "in", type := (.object "java/io/InputStream"), accessFlags := 25, slot := 0, constantValue := 0 }, { name := "out", type := (.object "java/io/PrintStream"), accessFlags := 25, slot := 1, constantValue := 0 }, { name := "err", type := (.object "java/io/PrintStream"), accessFlags := 25, slot := 2, constantValue := 0 }, { name := "initialIn", type := (.object "java/io/InputStream"), accessFlags := 10, slot := 3, constantValue := 0 }, { name := "NEVER", type := .int, accessFlags := 26, slot := 4, constantValue := 0 }, { name := "MAYBE", type := .int, accessFlags := 26, slot := 5, constantValue := 0 }, { name := "allowSecurityManager", type := .int, accessFlags := 10, slot := 6, constantValue := 0 }, { name := "security", type := (.object "java/lang/SecurityManager"), accessFlags := 74, slot := 7, constantValue := 0 }, { name := "notSupportedJnuEncoding", type := (.object "java/lang/String"), accessFlags := 10, slot := 8, constantValue := 0 }, { name := "cons", type := (.object "java/io/Console"), accessFlags := 74, slot := 9, constantValue := 0 }, { name := "initialErrStream", type := (.object "java/io/PrintStream"), accessFlags := 74, slot := 10, constantValue := 0 }, { name := "props", type := (.object "java/util/Properties"), accessFlags := 10, slot := 11, constantValue := 0 }, { name := "lineSeparator", type := (.object "java/lang/String"), accessFlags := 10, slot := 12, constantValue := 0 }, { name := "bootLayer", type := (.object "java/lang/ModuleLayer"), accessFlags := 8, slot := 13, constantValue := 0 }]
  methods := #[k5m0, k5m1]
  instanceTypes := #[]
  staticTypes := #[(.object "java/io/InputStream"), (.object "java/io/PrintStream"), (.object "java/io/PrintStream"), (.object "java/io/InputStream"), .int, .int, .int, (.object "java/lang/SecurityManager"), (.object "java/lang/String"), (.object "java/io/Console"), (.object "java/io/PrintStream"), (.object "java/util/Properties"), (.object "java/lang/String"), (.object "java/lang/ModuleLayer")]
  resolved := Array.replicate 834 none
  statics := none }

def pool6 : Array CpInfo := pool [(1, .class_ 2), (0, u "java/io/Serializable"), (0, .class_ 4), (0, u "java/lang/Object")] 2

/-- java/io/Serializable -/
def k6 : Class := { plain "java/io/Serializable" (some 0) with
  accessFlags := 1537
  interfaces := #[]
  cf := some (fileOf pool6 1 #[] #[] 1537 3 #[] #[])
  fields := #[]
  methods := #[]
  instanceTypes := #[]
  staticTypes := #[]
  resolved := Array.replicate 7 none
  statics := none }

def pool7 : Array CpInfo := pool [(2, .class_ 4), (1, u "java/lang/Object"), (0, u "<init>"), (0, u "()V"), (1, .class_ 10), (1, u "java/lang/Number"), (2, .class_ 14), (0, u "java/io/Serializable"), (0, u "serialVersionUID"), (0, u "J")] 20

def k7m0 : Method := { name := "<init>", desc := "()V", sig := { parameters := [], returnType := none }, accessFlags := 1, code := none }
/-- java/lang/Number -/
def k7 : Class := { plain "java/lang/Number" (some 0) with
  accessFlags := 1057
  interfaces := #[6]
  cf := some (fileOf pool7 8 #[] #[{ accessFlags := 1, nameIndex := 5, descriptorIndex := 6, attributes := #[] }] 1057 2 #[13] #[{ accessFlags := 26, nameIndex := 15, descriptorIndex := 16, attributes := #[] }])
  fields := #[{ name := "serialVersionUID", type := .long, accessFlags := 26, slot := 0, constantValue := 0 }]
  methods := #[k7m0]
  instanceTypes := #[]
  staticTypes := #[.long]
  resolved := Array.replicate 37 none
  statics := none }

def pool8 : Array CpInfo := pool [(1, .class_ 2), (0, u "java/lang/Comparable"), (0, .class_ 4), (0, u "java/lang/Object")] 7

/-- java/lang/Comparable -/
def k8 : Class := { plain "java/lang/Comparable" (some 0) with
  accessFlags := 1537
  interfaces := #[]
  cf := some (fileOf pool8 1 #[] #[] 1537 3 #[] #[])
  fields := #[]
  methods := #[]
  instanceTypes := #[]
  staticTypes := #[]
  resolved := Array.replicate 12 none
  statics := none }

def pool9 : Array CpInfo := pool [(1, .class_ 2), (0, u "java/lang/constant/Constable"), (0, .class_ 4), (0, u "java/lang/Object")] 6

/-- java/lang/constant/Constable -/
def k9 : Class := { plain "java/lang/constant/Constable" (some 0) with
  accessFlags := 1537
  interfaces := #[]
  cf := some (fileOf pool9 1 #[] #[] 1537 3 #[] #[])
  fields := #[]
  methods := #[]
  instanceTypes := #[]
  staticTypes := #[]
  resolved := Array.replicate 11 none
  statics := none }

def pool10 : Array CpInfo := pool [(1, .class_ 2), (0, u "java/lang/constant/ConstantDesc"), (0, .class_ 4), (0, u "java/lang/Object")] 32

/-- java/lang/constant/ConstantDesc -/
def k10 : Class := { plain "java/lang/constant/ConstantDesc" (some 0) with
  accessFlags := 1537
  interfaces := #[]
  cf := some (fileOf pool10 1 #[] #[] 1537 3 #[] #[])
  fields := #[]
  methods := #[]
  instanceTypes := #[]
  staticTypes := #[]
  resolved := Array.replicate 37 none
  statics := none }

def pool11 : Array CpInfo := pool [(1, .class_ 2), (0, u "java/lang/Long"), (15, .class_ 20), (1, u "java/lang/Integer"), (80, u "(J)I"), (133, .class_ 237), (1, u "java/lang/Long$LongCache"), (33, .class_ 272), (0, u "java/lang/Number"), (2, u "value"), (0, u "J"), (33, u "(I)I"), (0, .methodref 18 312), (0, .nameAndType 313 310), (0, u "numberOfTrailingZeros"), (47, u "TYPE"), (0, u "Ljava/lang/Class;"), (0, .class_ 364), (0, u "java/lang/Comparable"), (0, .class_ 366), (0, u "java/lang/constant/Constable"), (0, .class_ 368), (0, u "java/lang/constant/ConstantDesc"), (0, u "MIN_VALUE"), (1, u "MAX_VALUE"), (4, u "SIZE"), (0, u "I"), (1, u "BYTES"), (1, u "serialVersionUID")] 142

def k11c0 : Code := { maxStack := 4, maxLocals := 3, code := jdk_35_method_49_code, exceptionTable := #[], attributes := #[] }
def k11m0 : Method := { name := "numberOfTrailingZeros", desc := "(J)I", sig := { parameters := [.long], returnType := some .int }, accessFlags := 9, code := some k11c0 }
/-- java/lang/Long -/
def k11 : Class := { plain "java/lang/Long" (some 7) with
  accessFlags := 49
  interfaces := #[8, 9, 10]
  cf := some (fileOf pool11 1 #[.nestMembers #[235]] #[{ accessFlags := 9, nameIndex := 313, descriptorIndex := 101, attributes := #[] }] 49 271 #[363, 365, 367] #[{ accessFlags := 25, nameIndex := 369, descriptorIndex := 276, attributes := #[] }, { accessFlags := 25, nameIndex := 371, descriptorIndex := 276, attributes := #[] }, { accessFlags := 25, nameIndex := 361, descriptorIndex := 362, attributes := #[] }, { accessFlags := 18, nameIndex := 275, descriptorIndex := 276, attributes := #[] }, { accessFlags := 25, nameIndex := 376, descriptorIndex := 377, attributes := #[] }, { accessFlags := 25, nameIndex := 379, descriptorIndex := 377, attributes := #[] }, { accessFlags := 26, nameIndex := 381, descriptorIndex := 276, attributes := #[] }])
  fields := #[{ name := "MIN_VALUE", type := .long, accessFlags := 25, slot := 0, constantValue := 0 }, { name := "MAX_VALUE", type := .long, accessFlags := 25, slot := 1, constantValue := 0 }, { name := "TYPE", type := (.object "java/lang/Class"), accessFlags := 25, slot := 2, constantValue := 0 }, { name := "value", type := .long, accessFlags := 18, slot := 0, constantValue := 0 }, { name := "SIZE", type := .int, accessFlags := 25, slot := 3, constantValue := 0 }, { name := "BYTES", type := .int, accessFlags := 25, slot := 4, constantValue := 0 }, { name := "serialVersionUID", type := .long, accessFlags := 26, slot := 5, constantValue := 0 }]
  methods := #[k11m0]
  instanceTypes := #[.long]
  staticTypes := #[.long, .long, (.object "java/lang/Class"), .int, .int, .long]
  resolved := Array.replicate 524 none
  statics := none }

def pool12 : Array CpInfo := pool [(1, .class_ 2), (0, u "java/lang/Integer"), (16, u "digits"), (0, u "[C"), (33, u "(I)I"), (30, u "DigitOnes"), (0, u "[B"), (2, u "DigitTens"), (99, .class_ 190), (0, u "java/lang/Integer$IntegerCache"), (3, u "I"), (8, .class_ 204), (0, u "java/lang/Number"), (2, u "value"), (56, .integer 65536), (37, u "TYPE"), (0, u "Ljava/lang/Class;"), (0, .class_ 305), (0, u "java/lang/Comparable"), (0, .class_ 307), (0, u "java/lang/constant/Constable"), (0, .class_ 309), (0, u "java/lang/constant/ConstantDesc"), (0, u "MIN_VALUE"), (1, u "MAX_VALUE"), (3, u "SIZE"), (1, u "BYTES"), (1, u "serialVersionUID"), (0, u "J"), (84, u "numberOfTrailingZeros")] 46

def k12c0 : Code := { maxStack := 3, maxLocals := 2, code := jdk_33_method_48_code, exceptionTable := #[], attributes := #[] }
def k12m0 : Method := { name := "numberOfTrailingZeros", desc := "(I)I", sig := { parameters := [.int], returnType := some .int }, accessFlags := 9, code := some k12c0 }
/-- java/lang/Integer -/
def k12 : Class := { plain "java/lang/Integer" (some 7) with
  accessFlags := 49
  interfaces := #[8, 9, 10]
  cf := some (fileOf pool12 1 #[.nestMembers #[189]] #[{ accessFlags := 9, nameIndex := 406, descriptorIndex := 54, attributes := #[] }] 49 203 #[304, 306, 308] #[{ accessFlags := 25, nameIndex := 310, descriptorIndex := 194, attributes := #[] }, { accessFlags := 25, nameIndex := 312, descriptorIndex := 194, attributes := #[] }, { accessFlags := 25, nameIndex := 302, descriptorIndex := 303, attributes := #[] }, { accessFlags := 24, nameIndex := 19, descriptorIndex := 20, attributes := #[] }, { accessFlags := 24, nameIndex := 89, descriptorIndex := 86, attributes := #[] }, { accessFlags := 24, nameIndex := 85, descriptorIndex := 86, attributes := #[] }, { accessFlags := 18, nameIndex := 207, descriptorIndex := 194, attributes := #[] }, { accessFlags := 25, nameIndex := 316, descriptorIndex := 194, attributes := #[] }, { accessFlags := 25, nameIndex := 318, descriptorIndex := 194, attributes := #[] }, { accessFlags := 26, nameIndex := 320, descriptorIndex := 321, attributes := #[] }])
  fields := #[{ name := "MIN_VALUE", type := .int, accessFlags := 25, slot := 0, constantValue := 0 }, { name := "MAX_VALUE", type := .int, accessFlags := 25, slot := 1, constantValue := 0 }, { name := "TYPE", type := (.object "java/lang/Class"), accessFlags := 25, slot := 2, constantValue := 0 }, { name := "digits", type := (.array .char), accessFlags := 24, slot := 3, constantValue := 0 }, { name := "DigitTens", type := (.array .byte), accessFlags := 24, slot := 4, constantValue := 0 }, { name := "DigitOnes", type := (.array .byte), accessFlags := 24, slot := 5, constantValue := 0 }, { name := "value", type := .int, accessFlags := 18, slot := 0, constantValue := 0 }, { name := "SIZE", type := .int, accessFlags := 25, slot := 6, constantValue := 0 }, { name := "BYTES", type := .int, accessFlags := 25, slot := 7, constantValue := 0 }, { name := "serialVersionUID", type := .long, accessFlags := 26, slot := 8, constantValue := 0 }]
  methods := #[k12m0]
  instanceTypes := #[.int]
  staticTypes := #[.int, .int, (.object "java/lang/Class"), (.array .char), (.array .byte), (.array .byte), .int, .int, .long]
  resolved := Array.replicate 453 none
  statics := none }

def pool13 : Array CpInfo := pool [(1, u "java/lang/Cloneable"), (0, .class_ 1), (0, u "java/lang/Object"), (0, .class_ 3)] 3

/-- java/lang/Cloneable -/
def k13 : Class := { plain "java/lang/Cloneable" (some 0) with
  accessFlags := 1537
  interfaces := #[]
  cf := some (fileOf pool13 2 #[] #[] 1537 4 #[] #[])
  fields := #[]
  methods := #[]
  instanceTypes := #[]
  staticTypes := #[]
  resolved := Array.replicate 8 none
  statics := none }

/-- the primitive byte -/
def k14 : Class := { plain "byte" none with kind := .primitive 'B', accessFlags := 0x411 }
/-- [B -/
def k15 : Class := { plain "[B" (some 0) with kind := .array 14 .byte, interfaces := #[13, 6], accessFlags := 1041 }

/-- the primitive int -/
def k16 : Class := { plain "int" none with kind := .primitive 'I', accessFlags := 0x411 }
/-- [I -/
def k17 : Class := { plain "[I" (some 0) with kind := .array 16 .int, interfaces := #[13, 6], accessFlags := 1041 }

/-- the primitive long -/
def k18 : Class := { plain "long" none with kind := .primitive 'J', accessFlags := 0x411 }
/-- [J -/
def k19 : Class := { plain "[J" (some 0) with kind := .array 18 .long, interfaces := #[13, 6], accessFlags := 1041 }

/-- [[J -/
def k20 : Class := { plain "[[J" (some 0) with kind := .array 19 (.array .long), interfaces := #[13, 6], accessFlags := 1041 }

def heap : Heap := #[]
def classes : Array Class := #[k0, k1, k2, k3, k4, k5, k6, k7, k8, k9, k10, k11, k12, k13, k14, k15, k16, k17, k18, k19, k20]
def interned : List (Array UInt16 × Addr) := []
def slotsUsed : Nat := 0
def theMethod : MethodId := ⟨1, 3⟩
def args0 : Array Value := #[.int 5, .int 7, .int 9, .int 2, .int 3, .int 15]
def aboutOver (below : List Frame) : State where
  vm := { classes := classes, interned := interned.toArray }
  heap := heap
  slotsUsed := slotsUsed
  threads := #[{ frames := .invoking theMethod args0 :: below }]
def below0 : List Frame := [.native { method := ⟨0, 0⟩, args := #[] }]
def about1 : State := aboutOver below0
def p0 : Program := .bare "" "" ""
def e0 : Env := launch0.env 0 0 0
theorem w_frames : about1.frames = Frame.invoking theMethod args0 :: below0 := rfl
set_option maxRecDepth 65536 in
theorem w_args : argsFit about1.vm theMethod args0 = true := by decide +kernel
set_option maxRecDepth 65536 in
theorem w_heap : heapFits about1 = true := by decide +kernel
set_option maxRecDepth 65536 in
theorem w_runnable : about1.curStatus? = some .runnable := by decide +kernel
set_option maxRecDepth 65536 in
theorem w_alone : about1.alone = true := by decide +kernel
set_option maxRecDepth 65536 in
theorem w_named : about1.methodNamed? x = some theMethod := by decide +kernel
set_option maxRecDepth 65536 in
theorem w_hears : about1.hears theMethod below0 = true := by decide +kernel
set_option maxRecDepth 65536 in
theorem w_ripe : about1.ripe theMethod args0 below0 = true := by decide +kernel
theorem w_running : about1.status = .running := rfl
set_option maxRecDepth 65536 in
theorem w_room : about1.hasRoom e0.platform room_1 = true :=
  launch0.hasRoom_least _ room_1 (by decide +kernel) (by decide +kernel) (by decide +kernel) (by decide +kernel) (by decide +kernel) (by decide +kernel)
theorem allAtoms_all (ts : List Jvm.Cond) (a : Array Jvm.Value) (st : Jvm.State) : (allAtoms ts).before a st = ts.all (fun c => c.before a st) := by
  induction ts with
  | nil => rfl
  | cons c t ih =>
    show (Jvm.Cond.and c (allAtoms t)).before a st = _
    rw [Jvm.Cond.before_and, ih, List.all_cons]
def words1 : List Jvm.Cond := Jvm.Cond.code x code maxLocals ret :: tables_1
/-- a 'code' word, met by the world's own term for the bytes: nothing is compared byte by byte -/
theorem code_word {y : MethodName} {bytes : ByteArray} {mx : Nat} {rt : Option FieldType} {a : Array Value} {s : State} {m : MethodId} {meth : Method} {c : Code} (h1 : s.methodNamed? y = some m) (h2 : s.vm.method? m = some meth) (h3 : meth.code = some c) (h4 : c.code = bytes)
    (h5 : (c.maxLocals == mx && c.exceptionTable.isEmpty && decide (c.maxStack ≤ mostOperands) && decide (meth.sig.returnType = rt) && !meth.locks && decide (parseMethodDescriptor y.desc = some meth.sig)) = true) : (Jvm.Cond.code y bytes mx rt).before a s = true := by
  simp only [Bool.and_eq_true, beq_iff_eq, Bool.not_eq_true', decide_eq_true_eq] at h5
  obtain ⟨⟨⟨⟨⟨g1, g2⟩, g3⟩, g4⟩, g5⟩, g6⟩ := h5
  simp [Cond.before, Cond.holds, Cond.value, h1, h2, h3, h4, g1, g2, g3, g4, g5, g6]
def isCode : Jvm.Cond → Bool
  | .code _ _ _ _ => true
  | _ => false
theorem all_split {L : List Jvm.Cond} {P : Jvm.Cond → Bool} (h1 : L.all (fun c => isCode c || P c) = true) (h2 : ∀ c ∈ L.filter isCode, P c = true) : L.all P = true := by
  refine List.all_eq_true.mpr fun c hc => ?_
  have h := List.all_eq_true.mp h1 c hc
  rcases Bool.eq_false_or_eq_true (isCode c) with hi | hi
  · exact h2 c (List.mem_filter.mpr ⟨hc, hi⟩)
  · simpa [hi] using h
set_option maxRecDepth 65536 in
theorem w_c0 : (Jvm.Cond.code x code maxLocals ret).before args0 about1 = true := code_word (m := ⟨1, 3⟩) (meth := k1m3) (c := k1c3) (by decide +kernel) rfl rfl rfl (by decide +kernel)
set_option maxRecDepth 65536 in
theorem w_c1 : (Jvm.Cond.code ({ cls := "com/example/following_sibling/followingsibling/MarkedIndexes", name := "<init>", desc := "()V" } : Jvm.MethodName) prog_62_method_1_code (1 : Nat) (Option.none : Option Jvm.ClassFile.FieldType)).before args0 about1 = true := code_word (m := ⟨2, 0⟩) (meth := k2m0) (c := k2c0) (by decide +kernel) rfl rfl rfl (by decide +kernel)
set_option maxRecDepth 65536 in
theorem w_c2 : (Jvm.Cond.code ({ cls := "java/lang/Object", name := "<init>", desc := "()V" } : Jvm.MethodName) object_method_1_code (1 : Nat) (Option.none : Option Jvm.ClassFile.FieldType)).before args0 about1 = true := code_word (m := ⟨0, 0⟩) (meth := k0m0) (c := k0c0) (by decide +kernel) rfl rfl rfl (by decide +kernel)
set_option maxRecDepth 65536 in
theorem w_c3 : (Jvm.Cond.code ({ cls := "com/example/following_sibling/followingsibling/MarkedIndexes", name := "mark", desc := "(I)V" } : Jvm.MethodName) prog_62_method_4_code (5 : Nat) (Option.none : Option Jvm.ClassFile.FieldType)).before args0 about1 = true := code_word (m := ⟨2, 2⟩) (meth := k2m2) (c := k2c2) (by decide +kernel) rfl rfl rfl (by decide +kernel)
set_option maxRecDepth 65536 in
theorem w_c4 : (Jvm.Cond.code ({ cls := "com/example/following_sibling/followingsibling/MarkedIndexes", name := "grow", desc := "(I)V" } : Jvm.MethodName) prog_62_method_8_code (10 : Nat) (Option.none : Option Jvm.ClassFile.FieldType)).before args0 about1 = true := code_word (m := ⟨2, 5⟩) (meth := k2m5) (c := k2c5) (by decide +kernel) rfl rfl rfl (by decide +kernel)
set_option maxRecDepth 65536 in
theorem w_c5 : (Jvm.Cond.code ({ cls := "java/lang/Math", name := "max", desc := "(II)I" } : Jvm.MethodName) jdk_29_method_65_code (2 : Nat) (Option.some Jvm.ClassFile.FieldType.int)).before args0 about1 = true := code_word (m := ⟨3, 1⟩) (meth := k3m1) (c := k3c1) (by decide +kernel) rfl rfl rfl (by decide +kernel)
set_option maxRecDepth 65536 in
theorem w_c6 : (Jvm.Cond.code ({ cls := "java/util/Arrays", name := "copyOf", desc := "([JI)[J" } : Jvm.MethodName) jdk_65_method_124_code (3 : Nat) (Option.some (Jvm.ClassFile.FieldType.array Jvm.ClassFile.FieldType.long))).before args0 about1 = true := code_word (m := ⟨4, 1⟩) (meth := k4m1) (c := k4c1) (by decide +kernel) rfl rfl rfl (by decide +kernel)
set_option maxRecDepth 65536 in
theorem w_c7 : (Jvm.Cond.code ({ cls := "java/lang/Math", name := "min", desc := "(II)I" } : Jvm.MethodName) jdk_29_method_69_code (2 : Nat) (Option.some Jvm.ClassFile.FieldType.int)).before args0 about1 = true := code_word (m := ⟨3, 2⟩) (meth := k3m2) (c := k3c2) (by decide +kernel) rfl rfl rfl (by decide +kernel)
set_option maxRecDepth 65536 in
theorem w_c8 : (Jvm.Cond.code ({ cls := "com/example/following_sibling/followingsibling/MarkedIndexes", name := "unmark", desc := "(I)V" } : Jvm.MethodName) prog_62_method_5_code (7 : Nat) (Option.none : Option Jvm.ClassFile.FieldType)).before args0 about1 = true := code_word (m := ⟨2, 3⟩) (meth := k2m3) (c := k2c3) (by decide +kernel) rfl rfl rfl (by decide +kernel)
set_option maxRecDepth 65536 in
theorem w_c9 : (Jvm.Cond.code ({ cls := "com/example/following_sibling/followingsibling/MarkedIndexes", name := "nextUnmarked", desc := "(I)I" } : Jvm.MethodName) prog_62_method_2_code (2 : Nat) (Option.some Jvm.ClassFile.FieldType.int)).before args0 about1 = true := code_word (m := ⟨2, 1⟩) (meth := k2m1) (c := k2c1) (by decide +kernel) rfl rfl rfl (by decide +kernel)
set_option maxRecDepth 65536 in
theorem w_c10 : (Jvm.Cond.code ({ cls := "com/example/following_sibling/followingsibling/MarkedIndexes", name := "nextClear", desc := "(II)I" } : Jvm.MethodName) prog_62_method_7_code (7 : Nat) (Option.some Jvm.ClassFile.FieldType.int)).before args0 about1 = true := code_word (m := ⟨2, 4⟩) (meth := k2m4) (c := k2c4) (by decide +kernel) rfl rfl rfl (by decide +kernel)
set_option maxRecDepth 65536 in
theorem w_c11 : (Jvm.Cond.code ({ cls := "java/lang/Long", name := "numberOfTrailingZeros", desc := "(J)I" } : Jvm.MethodName) jdk_35_method_49_code (3 : Nat) (Option.some Jvm.ClassFile.FieldType.int)).before args0 about1 = true := code_word (m := ⟨11, 0⟩) (meth := k11m0) (c := k11c0) (by decide +kernel) rfl rfl rfl (by decide +kernel)
set_option maxRecDepth 65536 in
theorem w_c12 : (Jvm.Cond.code ({ cls := "java/lang/Integer", name := "numberOfTrailingZeros", desc := "(I)I" } : Jvm.MethodName) jdk_33_method_48_code (2 : Nat) (Option.some Jvm.ClassFile.FieldType.int)).before args0 about1 = true := code_word (m := ⟨12, 0⟩) (meth := k12m0) (c := k12c0) (by decide +kernel) rfl rfl rfl (by decide +kernel)
set_option maxRecDepth 65536 in
theorem w_c13 : (Jvm.Cond.code ({ cls := "com/example/following_sibling/followingsibling/MarkedIndexesUnmarkPinLaw", name := "next", desc := "(IIIIII)I" } : Jvm.MethodName) method_3_code (7 : Nat) (Option.some Jvm.ClassFile.FieldType.int)).before args0 about1 = true := code_word (m := ⟨1, 2⟩) (meth := k1m2) (c := k1c2) (by decide +kernel) rfl rfl rfl (by decide +kernel)
set_option maxRecDepth 65536 in
theorem w_c14 : (Jvm.Cond.code ({ cls := "com/example/following_sibling/followingsibling/MarkedIndexesUnmarkPinLaw", name := "in", desc := "(IIIIII)Z" } : Jvm.MethodName) method_2_code (6 : Nat) (Option.some Jvm.ClassFile.FieldType.boolean)).before args0 about1 = true := code_word (m := ⟨1, 1⟩) (meth := k1m1) (c := k1c1) (by decide +kernel) rfl rfl rfl (by decide +kernel)
def codes1 : List Jvm.Cond := [Jvm.Cond.code x code maxLocals ret, Jvm.Cond.code ({ cls := "com/example/following_sibling/followingsibling/MarkedIndexes", name := "<init>", desc := "()V" } : Jvm.MethodName) prog_62_method_1_code (1 : Nat) (Option.none : Option Jvm.ClassFile.FieldType), Jvm.Cond.code ({ cls := "java/lang/Object", name := "<init>", desc := "()V" } : Jvm.MethodName) object_method_1_code (1 : Nat) (Option.none : Option Jvm.ClassFile.FieldType), Jvm.Cond.code ({ cls := "com/example/following_sibling/followingsibling/MarkedIndexes", name := "mark", desc := "(I)V" } : Jvm.MethodName) prog_62_method_4_code (5 : Nat) (Option.none : Option Jvm.ClassFile.FieldType), Jvm.Cond.code ({ cls := "com/example/following_sibling/followingsibling/MarkedIndexes", name := "grow", desc := "(I)V" } : Jvm.MethodName) prog_62_method_8_code (10 : Nat) (Option.none : Option Jvm.ClassFile.FieldType), Jvm.Cond.code ({ cls := "java/lang/Math", name := "max", desc := "(II)I" } : Jvm.MethodName) jdk_29_method_65_code (2 : Nat) (Option.some Jvm.ClassFile.FieldType.int), Jvm.Cond.code ({ cls := "java/util/Arrays", name := "copyOf", desc := "([JI)[J" } : Jvm.MethodName) jdk_65_method_124_code (3 : Nat) (Option.some (Jvm.ClassFile.FieldType.array Jvm.ClassFile.FieldType.long)), Jvm.Cond.code ({ cls := "java/lang/Math", name := "min", desc := "(II)I" } : Jvm.MethodName) jdk_29_method_69_code (2 : Nat) (Option.some Jvm.ClassFile.FieldType.int), Jvm.Cond.code ({ cls := "com/example/following_sibling/followingsibling/MarkedIndexes", name := "unmark", desc := "(I)V" } : Jvm.MethodName) prog_62_method_5_code (7 : Nat) (Option.none : Option Jvm.ClassFile.FieldType), Jvm.Cond.code ({ cls := "com/example/following_sibling/followingsibling/MarkedIndexes", name := "nextUnmarked", desc := "(I)I" } : Jvm.MethodName) prog_62_method_2_code (2 : Nat) (Option.some Jvm.ClassFile.FieldType.int), Jvm.Cond.code ({ cls := "com/example/following_sibling/followingsibling/MarkedIndexes", name := "nextClear", desc := "(II)I" } : Jvm.MethodName) prog_62_method_7_code (7 : Nat) (Option.some Jvm.ClassFile.FieldType.int), Jvm.Cond.code ({ cls := "java/lang/Long", name := "numberOfTrailingZeros", desc := "(J)I" } : Jvm.MethodName) jdk_35_method_49_code (3 : Nat) (Option.some Jvm.ClassFile.FieldType.int), Jvm.Cond.code ({ cls := "java/lang/Integer", name := "numberOfTrailingZeros", desc := "(I)I" } : Jvm.MethodName) jdk_33_method_48_code (2 : Nat) (Option.some Jvm.ClassFile.FieldType.int), Jvm.Cond.code ({ cls := "com/example/following_sibling/followingsibling/MarkedIndexesUnmarkPinLaw", name := "next", desc := "(IIIIII)I" } : Jvm.MethodName) method_3_code (7 : Nat) (Option.some Jvm.ClassFile.FieldType.int), Jvm.Cond.code ({ cls := "com/example/following_sibling/followingsibling/MarkedIndexesUnmarkPinLaw", name := "in", desc := "(IIIIII)Z" } : Jvm.MethodName) method_2_code (6 : Nat) (Option.some Jvm.ClassFile.FieldType.boolean)]
set_option maxRecDepth 65536 in
theorem codes_eq : words1.filter isCode = codes1 := rfl
theorem w_codes : ∀ c ∈ words1.filter isCode, c.before args0 about1 = true := by
  rw [codes_eq]
  intro c hc
  simp only [codes1, List.mem_cons, List.not_mem_nil, or_false] at hc
  rcases hc with rfl | rfl | rfl | rfl | rfl | rfl | rfl | rfl | rfl | rfl | rfl | rfl | rfl | rfl | rfl
  · exact w_c0
  · exact w_c1
  · exact w_c2
  · exact w_c3
  · exact w_c4
  · exact w_c5
  · exact w_c6
  · exact w_c7
  · exact w_c8
  · exact w_c9
  · exact w_c10
  · exact w_c11
  · exact w_c12
  · exact w_c13
  · exact w_c14
set_option maxRecDepth 65536 in
theorem w_t1 : (words1.take 24).all (fun c => isCode c || c.before args0 about1) = true := by decide +kernel
set_option maxRecDepth 65536 in
theorem w_t2 : ((words1.drop 24).take 24).all (fun c => isCode c || c.before args0 about1) = true := by decide +kernel
set_option maxRecDepth 65536 in
theorem w_t3 : (((words1.drop 24).drop 24).take 24).all (fun c => isCode c || c.before args0 about1) = true := by decide +kernel
set_option maxRecDepth 65536 in
theorem w_t4 : (((words1.drop 24).drop 24).drop 24).all (fun c => isCode c || c.before args0 about1) = true := by decide +kernel
theorem w_tables : (allAtoms (Jvm.Cond.code x code maxLocals ret :: tables_1)).before args0 about1 = true := by
  rw [allAtoms_all]
  show words1.all (fun c => c.before args0 about1) = true
  refine all_split ?_ w_codes
  rw [← List.take_append_drop 24 words1, List.all_append, w_t1, ← List.take_append_drop 24 (words1.drop 24), List.all_append, w_t2, ← List.take_append_drop 24 ((words1.drop 24).drop 24), List.all_append, w_t3, w_t4]
  rfl
set_option maxRecDepth 65536 in
theorem w_case : (Jvm.Cond.and given_1 narrow_1).before args0 about1 = true := by decide +kernel
theorem w_applies : (headSpec (Jvm.Cond.code x code maxLocals ret :: tables_1) room_1).applies x e0.platform about1 = true :=
  (Spec.applies_iff w_frames).mpr ⟨w_running, w_runnable, w_alone, w_named, w_hears, w_ripe, w_room, w_tables⟩
theorem atStart : AtStart classFile x code maxLocals ret World_1 tables_1 room_1 Calls_1 rest_1 Pre_1 launch0 p0 e0 about1 theMethod args0 below0 :=
  ⟨lists_1, trivial, launch0.admits_env _ _ _, launch0.least_env, fairChoices_fair.cas, fairChoices_fair.clock, w_frames, w_args, w_heap, w_applies, trivial, trivial, w_case⟩
end start1
theorem witness_1 : WitnessClaimed_1 := ⟨start1.p0, start1.e0, start1.about1, start1.theMethod, start1.args0, start1.below0, start1.atStart⟩
end Jvm.Pilot.@@N@@
