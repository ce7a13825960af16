import JvmDerived
import JvmDerived.Pilot.@@N@@Statement
import JvmDerived.Pilot.@@N@@Code
set_option linter.unusedVariables false
set_option linter.unusedSimpArgs false
namespace Jvm.RoadKit
open Sem ClassFile Op Lib Jvm.Stand Jvm.Free Jvm.LawKit
section New
variable {p : Program} {l : Launch} {e : Env} {R : Room} {s : State} {m : MethodId} {args : Array Value} {below : List Frame} {meth : Method} {c : Code} {T : State} {locs : List Loc} {cells slots : Nat}
theorem retI (X : Stand p l e R s m args below meth c T locs cells slots) (hx : p.tables.exec = Jvm.exec) {pc : Nat} {Ls : Array Slot} {z : Int32} {rest : List Value} (hret : meth.sig.returnType = some .int) (hd : decode c.code pc = .ok (.ireturn, 1)) {fs : List Frame}
    (hl : ∀ (f : JFrame) (acts : List Action), f.method = m → f.locked = none → f.entered = [] → (doReturn e (T.setTop f) acts (some (.int z))).1 = T.setFrames fs) : Steps p.tables e below (T.setTop (mkF m pc Ls (.int z :: rest))) (T.setFrames fs) := by
  have hm' : T.vm.method? m = some meth := X.method'
  have hn : narrow .int (.int z) = .int z := rfl
  show Steps p.tables e below (T.setTop { method := m, pc := pc, locals := Ls, stack := _ :: rest, locked := none }) _
  jvm_step X.here [X.here.top, hx, hd, hm', hret, hn]
  first | (intro acts; rw [hl _ acts rfl rfl rfl]) | rw [hl _ _ rfl rfl rfl]
  exact Steps.refl _
end New
end Jvm.RoadKit
namespace Jvm.Pilot.@@N@@
open Jvm Jvm.ClassFile Sem Op Lib Jvm.Free Jvm.Stand Jvm.LawKit Jvm.RoadKit Bundle Jvm.Pilot.@@N@@.Jvm.D
section Own
variable {p : Program} {l : Launch} {e : Env} {R : Room} {s : State} {m : MethodId} {args : Array Value} {below : List Frame} {meth : Method} {c : Code} {T : State} {Z : State} {h : Heap} {n0 kc ks cells slots ml pc pc' pt : Nat} {Q : Option Value → Heap → Prop} {bc : ByteArray} {y : MethodName} {rt : Option FieldType} {L L' : Array Slot} {S : List Value} {a0 : Array Value}
def oG (p : Program) (e : Env) (below : List Frame) (s : State) (n0 kc ks : Nat) (Q : Option Value → Heap → Prop) (U : State) : Prop :=
  ∃ s₂ o, Steps p.tables e below U s₂ ∧ s₂.status = .running ∧ Ended s₂ below o ∧ ∃ v L, o = .returned v ∧ (Q v s₂.heap ∧ Fr n0 L) ∧ FrameEnd s o s₂ L kc ks
def oH (p : Program) (l : Launch) (e : Env) (R : Room) (s : State) (m : MethodId) (args : Array Value) (below : List Frame) (meth : Method) (c : Code) (bc : ByteArray) (ml : Nat) (y : MethodName) (rt : Option FieldType) (Z : State) (n0 : Nat) (T : State) (h : Heap) (cells slots : Nat) : Prop :=
  ∃ locs, Stand p l e R s m args below meth c T locs cells slots ∧ T.heap = h ∧ Fr n0 locs ∧ p.tables.exec = Jvm.exec ∧ c.code = bc ∧ c.maxLocals = ml ∧ Z.Warmed39 s.vm ∧ s.vm.findClass y.cls = some m.cls ∧ meth.name = y.name ∧ meth.sig.returnType = rt ∧ meth.locks = false ∧ n0 ≤ s.heap.size
theorem oG.go {U U' : State} (f : ∀ t, Steps p.tables e below U' t → Steps p.tables e below U t) (k : oG p e below s n0 kc ks Q U') : oG p e below s n0 kc ks Q U := by
  obtain ⟨s2, o, h1, r⟩ := k
  exact ⟨s2, o, f _ h1, r⟩
theorem oG.mono {U : State} {Q' : Option Value → Heap → Prop} (k : oG p e below s n0 kc ks Q' U) (f : ∀ v h, Q' v h → Q v h) : oG p e below s n0 kc ks Q U := by
  obtain ⟨s2, o, h1, h2, h3, v, L, h4, ⟨h5, h6⟩, h7⟩ := k
  exact ⟨s2, o, h1, h2, h3, v, L, h4, ⟨f _ _ h5, h6⟩, h7⟩
theorem oH.le (H : oH p l e R s m args below meth c bc ml y rt Z n0 T h cells slots) : n0 ≤ h.size := by
  obtain ⟨locs, X, eT, N, -, -, -, -, -, -, -, -, hn⟩ := H
  have q : s.heap.size ≤ T.heap.size := X.same.2.1
  rw [← eT]; exact Nat.le_trans hn q
theorem oH.more {cells' slots' : Nat} (H : oH p l e R s m args below meth c bc ml y rt Z n0 T h cells slots) (hc : cells ≤ cells') (hs : slots ≤ slots') : oH p l e R s m args below meth c bc ml y rt Z n0 T h cells' slots' := by
  obtain ⟨locs, X, r⟩ := H
  exact ⟨locs, X.more hc hs, r⟩
/-- a method's contract: called with these arguments at the heap h0 it comes back with Q, within the room -/
def oC (l : Launch) (Z : State) (n0 : Nat) (y : MethodName) (bc : ByteArray) (ml : Nat) (rt : Option FieldType) (rm : Room) (kc ks : Nat) (as' : Array Value) (h0 : Heap) (Q : Option Value → Heap → Prop) : Prop :=
  ∀ ws : List Jvm.Cond, MetFree l y (head1 (Jvm.Cond.code y bc ml rt :: ws) rm) (fun a U => a = as' ∧ Z.Warmed39 U.vm ∧ U.heap = h0) (fun _ _ _ _ _ => True) (fun _ U o U' => ∃ v L, o = .returned v ∧ (Q v U'.heap ∧ Fr n0 L) ∧ FrameEnd U o U' L kc ks)
theorem oC.of {rm : Room} {as' : Array Value} {h0 : Heap} (hpl : plainFor y = true) (hn : n0 ≤ h0.size) (hef : ∀ m, entryFrame m as' ml = mkF m 0 L [])
    (body : ∀ (p : Program) (e : Env) (s : State) (m : MethodId) (below : List Frame) (meth : Method) (c : Code) (T : State), oH p l e rm s m as' below meth c bc ml y rt Z n0 T h0 0 0 → oG p e below s n0 kc ks Q (T.setTop (mkF m 0 L []))) : oC l Z n0 y bc ml rt rm kc ks as' h0 Q := by
  intro ws
  refine MetFree.of_bodySF hpl hisR ?_
  intro p e s m args below meth c s₁ Bd hml0 hP hK
  obtain ⟨rfl, hZ, hh⟩ := hP
  have X0 : Stand p l e rm s m args below meth c s₁ [] 0 0 := Stand.of_body Bd
  have e0 : s₁.heap = h0 := by rw [← hh, Bd.state]; rfl
  have k := body p e s m below meth c s₁ ⟨[], X0, e0, Fr.nil n0, Bd.exec, Bd.bytes, hml0, hZ, findClass_of_methodNamed Bd.named, (name_of_methodNamed Bd.named Bd.method).1, Bd.returns, Bd.notSynchronized, by rw [hh]; exact hn⟩
  rw [hef m]; exact k
theorem oC.mono {rm : Room} {as' : Array Value} {h0 : Heap} {Q' : Option Value → Heap → Prop} (k : oC l Z n0 y bc ml rt rm kc ks as' h0 Q') (f : ∀ v h, Q' v h → Q v h) : oC l Z n0 y bc ml rt rm kc ks as' h0 Q := by
  intro ws p e h1 h2 h3 s m args below h4 h5 h6 h7
  obtain ⟨n, o, a1, a2, a3, v, L, a4, ⟨a5, a6⟩, a7⟩ := k ws p e h1 h2 h3 s m args below h4 h5 h6 h7
  exact ⟨n, o, a1, a2, a3, v, L, a4, ⟨f _ _ a5, a6⟩, a7⟩
theorem o_aloadN (H : oH p l e R s m args below meth c bc ml y rt Z n0 T h cells slots) {k : Fin 4} {v : Value} (hl : L[k.val]? = some (.val v)) (hv : v.isRef = true) (hd : decode bc pc = .ok (.aload_n k, 1)) (hp : pc + 1 = pc') (k : oG p e below s n0 kc ks Q (T.setTop (mkF m pc' L (v :: S)))) : oG p e below s n0 kc ks Q (T.setTop (mkF m pc L S)) := by
  obtain ⟨locs, X, eT, N, hx, hby, hml, hZ, hown, hnm, hret, hlk, hn⟩ := H
  subst hp
  exact oG.go (fun t hr => XS.aloadN X.here hx rfl (hb hby hd) hl hv hr) k
theorem o_iloadN (H : oH p l e R s m args below meth c bc ml y rt Z n0 T h cells slots) {k : Fin 4} {v : Int32} (hl : L[k.val]? = some (.val (.int v))) (hd : decode bc pc = .ok (.iload_n k, 1)) (hp : pc + 1 = pc') (k : oG p e below s n0 kc ks Q (T.setTop (mkF m pc' L (.int v :: S)))) : oG p e below s n0 kc ks Q (T.setTop (mkF m pc L S)) := by
  obtain ⟨locs, X, eT, N, hx, hby, hml, hZ, hown, hnm, hret, hlk, hn⟩ := H
  subst hp
  exact oG.go (fun t hr => XS.iloadN X.here hx rfl (hb hby hd) hl hr) k
theorem o_lloadN (H : oH p l e R s m args below meth c bc ml y rt Z n0 T h cells slots) {k : Fin 4} {v : Int64} (hl : L[k.val]? = some (.val (.long v))) (hd : decode bc pc = .ok (.lload_n k, 1)) (hp : pc + 1 = pc') (k : oG p e below s n0 kc ks Q (T.setTop (mkF m pc' L (.long v :: S)))) : oG p e below s n0 kc ks Q (T.setTop (mkF m pc L S)) := by
  obtain ⟨locs, X, eT, N, hx, hby, hml, hZ, hown, hnm, hret, hlk, hn⟩ := H
  subst hp
  exact oG.go (fun t hr => XT.lloadN X.here hx rfl (hb hby hd) hl hr) k
theorem o_astoreN (H : oH p l e R s m args below meth c bc ml y rt Z n0 T h cells slots) {k : Fin 4} {v : Value} (hl : storeLocals L k.val v = some L') (hv : v.isRef = true) (hd : decode bc pc = .ok (.astore_n k, 1)) (hp : pc + 1 = pc') (k : oG p e below s n0 kc ks Q (T.setTop (mkF m pc' L' S))) : oG p e below s n0 kc ks Q (T.setTop (mkF m pc L (v :: S))) := by
  obtain ⟨locs, X, eT, N, hx, hby, hml, hZ, hown, hnm, hret, hlk, hn⟩ := H
  subst hp
  exact oG.go (fun t hr => XS.astoreN X.here hx rfl (hb hby hd) rfl hv hl hr) k
theorem o_istoreN (H : oH p l e R s m args below meth c bc ml y rt Z n0 T h cells slots) {k : Fin 4} {v : Int32} (hl : storeLocals L k.val (.int v) = some L') (hd : decode bc pc = .ok (.istore_n k, 1)) (hp : pc + 1 = pc') (k : oG p e below s n0 kc ks Q (T.setTop (mkF m pc' L' S))) : oG p e below s n0 kc ks Q (T.setTop (mkF m pc L (.int v :: S))) := by
  obtain ⟨locs, X, eT, N, hx, hby, hml, hZ, hown, hnm, hret, hlk, hn⟩ := H
  subst hp
  exact oG.go (fun t hr => XS.istoreN X.here hx rfl (hb hby hd) rfl hl hr) k
theorem o_lstoreN (H : oH p l e R s m args below meth c bc ml y rt Z n0 T h cells slots) {k : Fin 4} {v : Int64} (hl : storeLocals L k.val (.long v) = some L') (hd : decode bc pc = .ok (.lstore_n k, 1)) (hp : pc + 1 = pc') (k : oG p e below s n0 kc ks Q (T.setTop (mkF m pc' L' S))) : oG p e below s n0 kc ks Q (T.setTop (mkF m pc L (.long v :: S))) := by
  obtain ⟨locs, X, eT, N, hx, hby, hml, hZ, hown, hnm, hret, hlk, hn⟩ := H
  subst hp
  exact oG.go (fun t hr => XT.lstoreN X.here hx rfl (hb hby hd) rfl hl hr) k
theorem o_aload (H : oH p l e R s m args below meth c bc ml y rt Z n0 T h cells slots) {k : Nat} {v : Value} (hl : L[k]? = some (.val v)) (hv : v.isRef = true) (hd : decode bc pc = .ok (.aload k, 2)) (hp : pc + 2 = pc') (k : oG p e below s n0 kc ks Q (T.setTop (mkF m pc' L (v :: S)))) : oG p e below s n0 kc ks Q (T.setTop (mkF m pc L S)) := by
  obtain ⟨locs, X, eT, N, hx, hby, hml, hZ, hown, hnm, hret, hlk, hn⟩ := H
  subst hp
  exact oG.go (fun t hr => XS.aload X.here hx rfl (hb hby hd) hl hv hr) k
theorem o_iload (H : oH p l e R s m args below meth c bc ml y rt Z n0 T h cells slots) {k : Nat} {v : Int32} (hl : L[k]? = some (.val (.int v))) (hd : decode bc pc = .ok (.iload k, 2)) (hp : pc + 2 = pc') (k : oG p e below s n0 kc ks Q (T.setTop (mkF m pc' L (.int v :: S)))) : oG p e below s n0 kc ks Q (T.setTop (mkF m pc L S)) := by
  obtain ⟨locs, X, eT, N, hx, hby, hml, hZ, hown, hnm, hret, hlk, hn⟩ := H
  subst hp
  exact oG.go (fun t hr => XS.iload X.here hx rfl (hb hby hd) hl hr) k
theorem o_lload (H : oH p l e R s m args below meth c bc ml y rt Z n0 T h cells slots) {k : Nat} {v : Int64} (hl : L[k]? = some (.val (.long v))) (hd : decode bc pc = .ok (.lload k, 2)) (hp : pc + 2 = pc') (k : oG p e below s n0 kc ks Q (T.setTop (mkF m pc' L (.long v :: S)))) : oG p e below s n0 kc ks Q (T.setTop (mkF m pc L S)) := by
  obtain ⟨locs, X, eT, N, hx, hby, hml, hZ, hown, hnm, hret, hlk, hn⟩ := H
  subst hp
  exact oG.go (fun t hr => XT.lload X.here hx rfl (hb hby hd) hl hr) k
theorem o_astore (H : oH p l e R s m args below meth c bc ml y rt Z n0 T h cells slots) {k : Nat} {v : Value} (hl : storeLocals L k v = some L') (hv : v.isRef = true) (hd : decode bc pc = .ok (.astore k, 2)) (hp : pc + 2 = pc') (k : oG p e below s n0 kc ks Q (T.setTop (mkF m pc' L' S))) : oG p e below s n0 kc ks Q (T.setTop (mkF m pc L (v :: S))) := by
  obtain ⟨locs, X, eT, N, hx, hby, hml, hZ, hown, hnm, hret, hlk, hn⟩ := H
  subst hp
  exact oG.go (fun t hr => XS.astore X.here hx rfl (hb hby hd) rfl hv hl hr) k
theorem o_istore (H : oH p l e R s m args below meth c bc ml y rt Z n0 T h cells slots) {k : Nat} {v : Int32} (hl : storeLocals L k (.int v) = some L') (hd : decode bc pc = .ok (.istore k, 2)) (hp : pc + 2 = pc') (k : oG p e below s n0 kc ks Q (T.setTop (mkF m pc' L' S))) : oG p e below s n0 kc ks Q (T.setTop (mkF m pc L (.int v :: S))) := by
  obtain ⟨locs, X, eT, N, hx, hby, hml, hZ, hown, hnm, hret, hlk, hn⟩ := H
  subst hp
  exact oG.go (fun t hr => XS.istore X.here hx rfl (hb hby hd) rfl hl hr) k
theorem o_lstore (H : oH p l e R s m args below meth c bc ml y rt Z n0 T h cells slots) {k : Nat} {v : Int64} (hl : storeLocals L k (.long v) = some L') (hd : decode bc pc = .ok (.lstore k, 2)) (hp : pc + 2 = pc') (k : oG p e below s n0 kc ks Q (T.setTop (mkF m pc' L' S))) : oG p e below s n0 kc ks Q (T.setTop (mkF m pc L (.long v :: S))) := by
  obtain ⟨locs, X, eT, N, hx, hby, hml, hZ, hown, hnm, hret, hlk, hn⟩ := H
  subst hp
  exact oG.go (fun t hr => XT.lstore X.here hx rfl (hb hby hd) rfl hl hr) k
theorem o_iconst (H : oH p l e R s m args below meth c bc ml y rt Z n0 T h cells slots) {i : Int} (v : Int32) (hv : Int32.ofInt i = v) (hd : decode bc pc = .ok (.iconst i, 1)) (hp : pc + 1 = pc') (k : oG p e below s n0 kc ks Q (T.setTop (mkF m pc' L (.int v :: S)))) : oG p e below s n0 kc ks Q (T.setTop (mkF m pc L S)) := by
  obtain ⟨locs, X, eT, N, hx, hby, hml, hZ, hown, hnm, hret, hlk, hn⟩ := H
  subst hp
  exact oG.go (fun t hr => XT.iconstV X.here hx rfl v (hb hby hd) hv hr) k
theorem o_bipush (H : oH p l e R s m args below meth c bc ml y rt Z n0 T h cells slots) {i : Int} (v : Int32) (hv : (Int8.ofInt i).toInt32 = v) (hd : decode bc pc = .ok (.bipush i, 2)) (hp : pc + 2 = pc') (k : oG p e below s n0 kc ks Q (T.setTop (mkF m pc' L (.int v :: S)))) : oG p e below s n0 kc ks Q (T.setTop (mkF m pc L S)) := by
  obtain ⟨locs, X, eT, N, hx, hby, hml, hZ, hown, hnm, hret, hlk, hn⟩ := H
  subst hp
  exact oG.go (fun t hr => XT.bipushV X.here hx rfl v (hb hby hd) hv hr) k
theorem o_sipush (H : oH p l e R s m args below meth c bc ml y rt Z n0 T h cells slots) {i : Int} (v : Int32) (hv : (Int16.ofInt i).toInt32 = v) (hd : decode bc pc = .ok (.sipush i, 3)) (hp : pc + 3 = pc') (k : oG p e below s n0 kc ks Q (T.setTop (mkF m pc' L (.int v :: S)))) : oG p e below s n0 kc ks Q (T.setTop (mkF m pc L S)) := by
  obtain ⟨locs, X, eT, N, hx, hby, hml, hZ, hown, hnm, hret, hlk, hn⟩ := H
  subst hp
  exact oG.go (fun t hr => XT.sipushV X.here hx rfl v (hb hby hd) hv hr) k
theorem o_lconst (H : oH p l e R s m args below meth c bc ml y rt Z n0 T h cells slots) {i : Fin 2} (v : Int64) (hv : Int64.ofNat i = v) (hd : decode bc pc = .ok (.lconst i, 1)) (hp : pc + 1 = pc') (k : oG p e below s n0 kc ks Q (T.setTop (mkF m pc' L (.long v :: S)))) : oG p e below s n0 kc ks Q (T.setTop (mkF m pc L S)) := by
  obtain ⟨locs, X, eT, N, hx, hby, hml, hZ, hown, hnm, hret, hlk, hn⟩ := H
  subst hp
  exact oG.go (fun t hr => XT.lconstV X.here hx rfl v (hb hby hd) hv hr) k
theorem o_aconst_null (H : oH p l e R s m args below meth c bc ml y rt Z n0 T h cells slots)   (hd : decode bc pc = .ok (.aconst_null, 1)) (hp : pc + 1 = pc') (k : oG p e below s n0 kc ks Q (T.setTop (mkF m pc' L (.null :: S)))) : oG p e below s n0 kc ks Q (T.setTop (mkF m pc L S)) := by
  obtain ⟨locs, X, eT, N, hx, hby, hml, hZ, hown, hnm, hret, hlk, hn⟩ := H
  subst hp
  exact oG.go (fun t hr => XS.aconstNull X.here hx rfl (hb hby hd) hr) k
theorem o_iadd (H : oH p l e R s m args below meth c bc ml y rt Z n0 T h cells slots) {x z : Int32}  (hd : decode bc pc = .ok (.iadd, 1)) (hp : pc + 1 = pc') (k : oG p e below s n0 kc ks Q (T.setTop (mkF m pc' L (.int (x + z) :: S)))) : oG p e below s n0 kc ks Q (T.setTop (mkF m pc L (.int z :: .int x :: S))) := by
  obtain ⟨locs, X, eT, N, hx, hby, hml, hZ, hown, hnm, hret, hlk, hn⟩ := H
  subst hp
  exact oG.go (fun t hr => XS.iadd X.here hx rfl (hb hby hd) rfl hr) k
theorem o_isub (H : oH p l e R s m args below meth c bc ml y rt Z n0 T h cells slots) {x z : Int32}  (hd : decode bc pc = .ok (.isub, 1)) (hp : pc + 1 = pc') (k : oG p e below s n0 kc ks Q (T.setTop (mkF m pc' L (.int (x - z) :: S)))) : oG p e below s n0 kc ks Q (T.setTop (mkF m pc L (.int z :: .int x :: S))) := by
  obtain ⟨locs, X, eT, N, hx, hby, hml, hZ, hown, hnm, hret, hlk, hn⟩ := H
  subst hp
  exact oG.go (fun t hr => XS.isub X.here hx rfl (hb hby hd) rfl hr) k
theorem o_imul (H : oH p l e R s m args below meth c bc ml y rt Z n0 T h cells slots) {x z : Int32}  (hd : decode bc pc = .ok (.imul, 1)) (hp : pc + 1 = pc') (k : oG p e below s n0 kc ks Q (T.setTop (mkF m pc' L (.int (x * z) :: S)))) : oG p e below s n0 kc ks Q (T.setTop (mkF m pc L (.int z :: .int x :: S))) := by
  obtain ⟨locs, X, eT, N, hx, hby, hml, hZ, hown, hnm, hret, hlk, hn⟩ := H
  subst hp
  exact oG.go (fun t hr => XS.imul X.here hx rfl (hb hby hd) rfl hr) k
theorem o_iand (H : oH p l e R s m args below meth c bc ml y rt Z n0 T h cells slots) {x z : Int32}  (hd : decode bc pc = .ok (.iand, 1)) (hp : pc + 1 = pc') (k : oG p e below s n0 kc ks Q (T.setTop (mkF m pc' L (.int (x &&& z) :: S)))) : oG p e below s n0 kc ks Q (T.setTop (mkF m pc L (.int z :: .int x :: S))) := by
  obtain ⟨locs, X, eT, N, hx, hby, hml, hZ, hown, hnm, hret, hlk, hn⟩ := H
  subst hp
  exact oG.go (fun t hr => XS.iand X.here hx rfl (hb hby hd) rfl hr) k
theorem o_ior (H : oH p l e R s m args below meth c bc ml y rt Z n0 T h cells slots) {x z : Int32}  (hd : decode bc pc = .ok (.ior, 1)) (hp : pc + 1 = pc') (k : oG p e below s n0 kc ks Q (T.setTop (mkF m pc' L (.int (x ||| z) :: S)))) : oG p e below s n0 kc ks Q (T.setTop (mkF m pc L (.int z :: .int x :: S))) := by
  obtain ⟨locs, X, eT, N, hx, hby, hml, hZ, hown, hnm, hret, hlk, hn⟩ := H
  subst hp
  exact oG.go (fun t hr => XT.ior X.here hx rfl (hb hby hd) rfl hr) k
theorem o_ixor (H : oH p l e R s m args below meth c bc ml y rt Z n0 T h cells slots) {x z : Int32}  (hd : decode bc pc = .ok (.ixor, 1)) (hp : pc + 1 = pc') (k : oG p e below s n0 kc ks Q (T.setTop (mkF m pc' L (.int (x ^^^ z) :: S)))) : oG p e below s n0 kc ks Q (T.setTop (mkF m pc L (.int z :: .int x :: S))) := by
  obtain ⟨locs, X, eT, N, hx, hby, hml, hZ, hown, hnm, hret, hlk, hn⟩ := H
  subst hp
  exact oG.go (fun t hr => XT.ixor X.here hx rfl (hb hby hd) rfl hr) k
theorem o_ishl (H : oH p l e R s m args below meth c bc ml y rt Z n0 T h cells slots) {x z : Int32}  (hd : decode bc pc = .ok (.ishl, 1)) (hp : pc + 1 = pc') (k : oG p e below s n0 kc ks Q (T.setTop (mkF m pc' L (.int (x <<< (z &&& 31)) :: S)))) : oG p e below s n0 kc ks Q (T.setTop (mkF m pc L (.int z :: .int x :: S))) := by
  obtain ⟨locs, X, eT, N, hx, hby, hml, hZ, hown, hnm, hret, hlk, hn⟩ := H
  subst hp
  exact oG.go (fun t hr => XT.ishl X.here hx rfl (hb hby hd) rfl hr) k
theorem o_ishr (H : oH p l e R s m args below meth c bc ml y rt Z n0 T h cells slots) {x z : Int32}  (hd : decode bc pc = .ok (.ishr, 1)) (hp : pc + 1 = pc') (k : oG p e below s n0 kc ks Q (T.setTop (mkF m pc' L (.int (x >>> (z &&& 31)) :: S)))) : oG p e below s n0 kc ks Q (T.setTop (mkF m pc L (.int z :: .int x :: S))) := by
  obtain ⟨locs, X, eT, N, hx, hby, hml, hZ, hown, hnm, hret, hlk, hn⟩ := H
  subst hp
  exact oG.go (fun t hr => XT.ishr X.here hx rfl (hb hby hd) rfl hr) k
theorem o_iushr (H : oH p l e R s m args below meth c bc ml y rt Z n0 T h cells slots) {x z : Int32}  (hd : decode bc pc = .ok (.iushr, 1)) (hp : pc + 1 = pc') (k : oG p e below s n0 kc ks Q (T.setTop (mkF m pc' L (.int (XT.ushr x z) :: S)))) : oG p e below s n0 kc ks Q (T.setTop (mkF m pc L (.int z :: .int x :: S))) := by
  obtain ⟨locs, X, eT, N, hx, hby, hml, hZ, hown, hnm, hret, hlk, hn⟩ := H
  subst hp
  exact oG.go (fun t hr => XT.iushr X.here hx rfl (hb hby hd) rfl hr) k
theorem o_ladd (H : oH p l e R s m args below meth c bc ml y rt Z n0 T h cells slots) {x z : Int64}  (hd : decode bc pc = .ok (.ladd, 1)) (hp : pc + 1 = pc') (k : oG p e below s n0 kc ks Q (T.setTop (mkF m pc' L (.long (x + z) :: S)))) : oG p e below s n0 kc ks Q (T.setTop (mkF m pc L (.long z :: .long x :: S))) := by
  obtain ⟨locs, X, eT, N, hx, hby, hml, hZ, hown, hnm, hret, hlk, hn⟩ := H
  subst hp
  exact oG.go (fun t hr => XT.ladd X.here hx rfl (hb hby hd) rfl hr) k
theorem o_lsub (H : oH p l e R s m args below meth c bc ml y rt Z n0 T h cells slots) {x z : Int64}  (hd : decode bc pc = .ok (.lsub, 1)) (hp : pc + 1 = pc') (k : oG p e below s n0 kc ks Q (T.setTop (mkF m pc' L (.long (x - z) :: S)))) : oG p e below s n0 kc ks Q (T.setTop (mkF m pc L (.long z :: .long x :: S))) := by
  obtain ⟨locs, X, eT, N, hx, hby, hml, hZ, hown, hnm, hret, hlk, hn⟩ := H
  subst hp
  exact oG.go (fun t hr => XT.lsub X.here hx rfl (hb hby hd) rfl hr) k
theorem o_lmul (H : oH p l e R s m args below meth c bc ml y rt Z n0 T h cells slots) {x z : Int64}  (hd : decode bc pc = .ok (.lmul, 1)) (hp : pc + 1 = pc') (k : oG p e below s n0 kc ks Q (T.setTop (mkF m pc' L (.long (x * z) :: S)))) : oG p e below s n0 kc ks Q (T.setTop (mkF m pc L (.long z :: .long x :: S))) := by
  obtain ⟨locs, X, eT, N, hx, hby, hml, hZ, hown, hnm, hret, hlk, hn⟩ := H
  subst hp
  exact oG.go (fun t hr => XT.lmul X.here hx rfl (hb hby hd) rfl hr) k
theorem o_land (H : oH p l e R s m args below meth c bc ml y rt Z n0 T h cells slots) {x z : Int64}  (hd : decode bc pc = .ok (.land, 1)) (hp : pc + 1 = pc') (k : oG p e below s n0 kc ks Q (T.setTop (mkF m pc' L (.long (x &&& z) :: S)))) : oG p e below s n0 kc ks Q (T.setTop (mkF m pc L (.long z :: .long x :: S))) := by
  obtain ⟨locs, X, eT, N, hx, hby, hml, hZ, hown, hnm, hret, hlk, hn⟩ := H
  subst hp
  exact oG.go (fun t hr => XT.land X.here hx rfl (hb hby hd) rfl hr) k
theorem o_lor (H : oH p l e R s m args below meth c bc ml y rt Z n0 T h cells slots) {x z : Int64}  (hd : decode bc pc = .ok (.lor, 1)) (hp : pc + 1 = pc') (k : oG p e below s n0 kc ks Q (T.setTop (mkF m pc' L (.long (x ||| z) :: S)))) : oG p e below s n0 kc ks Q (T.setTop (mkF m pc L (.long z :: .long x :: S))) := by
  obtain ⟨locs, X, eT, N, hx, hby, hml, hZ, hown, hnm, hret, hlk, hn⟩ := H
  subst hp
  exact oG.go (fun t hr => XT.lor X.here hx rfl (hb hby hd) rfl hr) k
theorem o_lxor (H : oH p l e R s m args below meth c bc ml y rt Z n0 T h cells slots) {x z : Int64}  (hd : decode bc pc = .ok (.lxor, 1)) (hp : pc + 1 = pc') (k : oG p e below s n0 kc ks Q (T.setTop (mkF m pc' L (.long (x ^^^ z) :: S)))) : oG p e below s n0 kc ks Q (T.setTop (mkF m pc L (.long z :: .long x :: S))) := by
  obtain ⟨locs, X, eT, N, hx, hby, hml, hZ, hown, hnm, hret, hlk, hn⟩ := H
  subst hp
  exact oG.go (fun t hr => XT.lxor X.here hx rfl (hb hby hd) rfl hr) k
theorem o_lcmp (H : oH p l e R s m args below meth c bc ml y rt Z n0 T h cells slots) {x z : Int64}  (hd : decode bc pc = .ok (.lcmp, 1)) (hp : pc + 1 = pc') (k : oG p e below s n0 kc ks Q (T.setTop (mkF m pc' L (.int (XT.cmpL x z) :: S)))) : oG p e below s n0 kc ks Q (T.setTop (mkF m pc L (.long z :: .long x :: S))) := by
  obtain ⟨locs, X, eT, N, hx, hby, hml, hZ, hown, hnm, hret, hlk, hn⟩ := H
  subst hp
  exact oG.go (fun t hr => XT.lcmp X.here hx rfl (hb hby hd) rfl hr) k
theorem o_lshl (H : oH p l e R s m args below meth c bc ml y rt Z n0 T h cells slots) {x : Int64} {z : Int32}  (hd : decode bc pc = .ok (.lshl, 1)) (hp : pc + 1 = pc') (k : oG p e below s n0 kc ks Q (T.setTop (mkF m pc' L (.long (x <<< (z.toInt64 &&& 63)) :: S)))) : oG p e below s n0 kc ks Q (T.setTop (mkF m pc L (.int z :: .long x :: S))) := by
  obtain ⟨locs, X, eT, N, hx, hby, hml, hZ, hown, hnm, hret, hlk, hn⟩ := H
  subst hp
  exact oG.go (fun t hr => XT.lshl X.here hx rfl (hb hby hd) rfl hr) k
theorem o_lshr (H : oH p l e R s m args below meth c bc ml y rt Z n0 T h cells slots) {x : Int64} {z : Int32}  (hd : decode bc pc = .ok (.lshr, 1)) (hp : pc + 1 = pc') (k : oG p e below s n0 kc ks Q (T.setTop (mkF m pc' L (.long (x >>> (z.toInt64 &&& 63)) :: S)))) : oG p e below s n0 kc ks Q (T.setTop (mkF m pc L (.int z :: .long x :: S))) := by
  obtain ⟨locs, X, eT, N, hx, hby, hml, hZ, hown, hnm, hret, hlk, hn⟩ := H
  subst hp
  exact oG.go (fun t hr => XT.lshr X.here hx rfl (hb hby hd) rfl hr) k
theorem o_lushr (H : oH p l e R s m args below meth c bc ml y rt Z n0 T h cells slots) {x : Int64} {z : Int32}  (hd : decode bc pc = .ok (.lushr, 1)) (hp : pc + 1 = pc') (k : oG p e below s n0 kc ks Q (T.setTop (mkF m pc' L (.long (XT.ushrL x z) :: S)))) : oG p e below s n0 kc ks Q (T.setTop (mkF m pc L (.int z :: .long x :: S))) := by
  obtain ⟨locs, X, eT, N, hx, hby, hml, hZ, hown, hnm, hret, hlk, hn⟩ := H
  subst hp
  exact oG.go (fun t hr => XT.lushr X.here hx rfl (hb hby hd) rfl hr) k
theorem o_idiv (H : oH p l e R s m args below meth c bc ml y rt Z n0 T h cells slots) {x z : Int32} (hz : z ≠ 0) (hd : decode bc pc = .ok (.idiv, 1)) (hp : pc + 1 = pc') (k : oG p e below s n0 kc ks Q (T.setTop (mkF m pc' L (.int (x / z) :: S)))) : oG p e below s n0 kc ks Q (T.setTop (mkF m pc L (.int z :: .int x :: S))) := by
  obtain ⟨locs, X, eT, N, hx, hby, hml, hZ, hown, hnm, hret, hlk, hn⟩ := H
  subst hp
  exact oG.go (fun t hr => XS.idiv X.here hx rfl (hb hby hd) rfl hz hr) k
theorem o_irem (H : oH p l e R s m args below meth c bc ml y rt Z n0 T h cells slots) {x z : Int32} (hz : z ≠ 0) (hd : decode bc pc = .ok (.irem, 1)) (hp : pc + 1 = pc') (k : oG p e below s n0 kc ks Q (T.setTop (mkF m pc' L (.int (x % z) :: S)))) : oG p e below s n0 kc ks Q (T.setTop (mkF m pc L (.int z :: .int x :: S))) := by
  obtain ⟨locs, X, eT, N, hx, hby, hml, hZ, hown, hnm, hret, hlk, hn⟩ := H
  subst hp
  exact oG.go (fun t hr => iremM X hx rfl (hb hby hd) rfl hz hr) k
theorem o_ineg (H : oH p l e R s m args below meth c bc ml y rt Z n0 T h cells slots) {x : Int32}  (hd : decode bc pc = .ok (.ineg, 1)) (hp : pc + 1 = pc') (k : oG p e below s n0 kc ks Q (T.setTop (mkF m pc' L (.int (-x) :: S)))) : oG p e below s n0 kc ks Q (T.setTop (mkF m pc L (.int x :: S))) := by
  obtain ⟨locs, X, eT, N, hx, hby, hml, hZ, hown, hnm, hret, hlk, hn⟩ := H
  subst hp
  exact oG.go (fun t hr => XS.ineg X.here hx rfl (hb hby hd) rfl hr) k
theorem o_lneg (H : oH p l e R s m args below meth c bc ml y rt Z n0 T h cells slots) {x : Int64}  (hd : decode bc pc = .ok (.lneg, 1)) (hp : pc + 1 = pc') (k : oG p e below s n0 kc ks Q (T.setTop (mkF m pc' L (.long (-x) :: S)))) : oG p e below s n0 kc ks Q (T.setTop (mkF m pc L (.long x :: S))) := by
  obtain ⟨locs, X, eT, N, hx, hby, hml, hZ, hown, hnm, hret, hlk, hn⟩ := H
  subst hp
  exact oG.go (fun t hr => XT.lneg X.here hx rfl (hb hby hd) rfl hr) k
theorem o_i2l (H : oH p l e R s m args below meth c bc ml y rt Z n0 T h cells slots) {x : Int32}  (hd : decode bc pc = .ok (.i2l, 1)) (hp : pc + 1 = pc') (k : oG p e below s n0 kc ks Q (T.setTop (mkF m pc' L (.long x.toInt64 :: S)))) : oG p e below s n0 kc ks Q (T.setTop (mkF m pc L (.int x :: S))) := by
  obtain ⟨locs, X, eT, N, hx, hby, hml, hZ, hown, hnm, hret, hlk, hn⟩ := H
  subst hp
  exact oG.go (fun t hr => XT.i2l X.here hx rfl (hb hby hd) rfl hr) k
theorem o_l2i (H : oH p l e R s m args below meth c bc ml y rt Z n0 T h cells slots) {x : Int64}  (hd : decode bc pc = .ok (.l2i, 1)) (hp : pc + 1 = pc') (k : oG p e below s n0 kc ks Q (T.setTop (mkF m pc' L (.int x.toInt32 :: S)))) : oG p e below s n0 kc ks Q (T.setTop (mkF m pc L (.long x :: S))) := by
  obtain ⟨locs, X, eT, N, hx, hby, hml, hZ, hown, hnm, hret, hlk, hn⟩ := H
  subst hp
  exact oG.go (fun t hr => XT.l2i X.here hx rfl (hb hby hd) rfl hr) k
theorem o_i2b (H : oH p l e R s m args below meth c bc ml y rt Z n0 T h cells slots) {x : Int32}  (hd : decode bc pc = .ok (.i2b, 1)) (hp : pc + 1 = pc') (k : oG p e below s n0 kc ks Q (T.setTop (mkF m pc' L (.int x.toInt8.toInt32 :: S)))) : oG p e below s n0 kc ks Q (T.setTop (mkF m pc L (.int x :: S))) := by
  obtain ⟨locs, X, eT, N, hx, hby, hml, hZ, hown, hnm, hret, hlk, hn⟩ := H
  subst hp
  exact oG.go (fun t hr => XT.i2b X.here hx rfl (hb hby hd) rfl hr) k
theorem o_i2c (H : oH p l e R s m args below meth c bc ml y rt Z n0 T h cells slots) {x : Int32}  (hd : decode bc pc = .ok (.i2c, 1)) (hp : pc + 1 = pc') (k : oG p e below s n0 kc ks Q (T.setTop (mkF m pc' L (.int x.toUInt32.toUInt16.toUInt32.toInt32 :: S)))) : oG p e below s n0 kc ks Q (T.setTop (mkF m pc L (.int x :: S))) := by
  obtain ⟨locs, X, eT, N, hx, hby, hml, hZ, hown, hnm, hret, hlk, hn⟩ := H
  subst hp
  exact oG.go (fun t hr => XT.i2c X.here hx rfl (hb hby hd) rfl hr) k
theorem o_i2s (H : oH p l e R s m args below meth c bc ml y rt Z n0 T h cells slots) {x : Int32}  (hd : decode bc pc = .ok (.i2s, 1)) (hp : pc + 1 = pc') (k : oG p e below s n0 kc ks Q (T.setTop (mkF m pc' L (.int x.toInt16.toInt32 :: S)))) : oG p e below s n0 kc ks Q (T.setTop (mkF m pc L (.int x :: S))) := by
  obtain ⟨locs, X, eT, N, hx, hby, hml, hZ, hown, hnm, hret, hlk, hn⟩ := H
  subst hp
  exact oG.go (fun t hr => XT.i2s X.here hx rfl (hb hby hd) rfl hr) k
theorem o_iinc (H : oH p l e R s m args below meth c bc ml y rt Z n0 T h cells slots) {j : Nat} {cst : Int} {x : Int32} (v u : Int32) (hv : Int32.ofInt cst = v) (hu : x + v = u) (hl : L[j]? = some (.val (.int x))) (hl' : storeLocals L j (.int u) = some L') (hd : decode bc pc = .ok (.iinc j cst, 3)) (hp : pc + 3 = pc') (k : oG p e below s n0 kc ks Q (T.setTop (mkF m pc' L' S))) : oG p e below s n0 kc ks Q (T.setTop (mkF m pc L S)) := by
  obtain ⟨locs, X, eT, N, hx, hby, hml, hZ, hown, hnm, hret, hlk, hn⟩ := H
  subst hp
  exact oG.go (fun t hr => XT.iincV X.here hx rfl v (hb hby hd) hv hl (hu ▸ hl') hr) k
theorem o_fold {x : Int32} (v : Int32) (hv : x = v) (k : oG p e below s n0 kc ks Q (T.setTop (mkF m pc L (.int v :: S)))) : oG p e below s n0 kc ks Q (T.setTop (mkF m pc L (.int x :: S))) := hv ▸ k
theorem o_foldJ {x : Int64} (v : Int64) (hv : x = v) (k : oG p e below s n0 kc ks Q (T.setTop (mkF m pc L (.long v :: S)))) : oG p e below s n0 kc ks Q (T.setTop (mkF m pc L (.long x :: S))) := hv ▸ k
theorem o_dup (H : oH p l e R s m args below meth c bc ml y rt Z n0 T h cells slots) {v : Value} (hc : v.category = 1) (hd : decode bc pc = .ok (.dup, 1)) (hp : pc + 1 = pc') (k : oG p e below s n0 kc ks Q (T.setTop (mkF m pc' L (v :: v :: S)))) : oG p e below s n0 kc ks Q (T.setTop (mkF m pc L (v :: S))) := by
  obtain ⟨locs, X, eT, N, hx, hby, hml, hZ, hown, hnm, hret, hlk, hn⟩ := H
  subst hp
  exact oG.go (fun t hr => XS.dup X.here hx rfl (hb hby hd) rfl hc hr) k
theorem o_dup_x1 (H : oH p l e R s m args below meth c bc ml y rt Z n0 T h cells slots) {v w : Value} (hc : v.category = 1) (hc' : w.category = 1) (hd : decode bc pc = .ok (.dup_x1, 1)) (hp : pc + 1 = pc') (k : oG p e below s n0 kc ks Q (T.setTop (mkF m pc' L (v :: w :: v :: S)))) : oG p e below s n0 kc ks Q (T.setTop (mkF m pc L (v :: w :: S))) := by
  obtain ⟨locs, X, eT, N, hx, hby, hml, hZ, hown, hnm, hret, hlk, hn⟩ := H
  subst hp
  exact oG.go (fun t hr => XT.dupX1 X.here hx rfl (hb hby hd) rfl hc hc' hr) k
theorem o_dup2 (H : oH p l e R s m args below meth c bc ml y rt Z n0 T h cells slots) {v w : Value} (hc : v.category = 1) (hc' : w.category = 1) (hd : decode bc pc = .ok (.dup2, 1)) (hp : pc + 1 = pc') (k : oG p e below s n0 kc ks Q (T.setTop (mkF m pc' L (v :: w :: v :: w :: S)))) : oG p e below s n0 kc ks Q (T.setTop (mkF m pc L (v :: w :: S))) := by
  obtain ⟨locs, X, eT, N, hx, hby, hml, hZ, hown, hnm, hret, hlk, hn⟩ := H
  subst hp
  exact oG.go (fun t hr => XT.dup2 X.here hx rfl (hb hby hd) rfl hc hc' hr) k
theorem o_dup2L (H : oH p l e R s m args below meth c bc ml y rt Z n0 T h cells slots) {v : Int64}  (hd : decode bc pc = .ok (.dup2, 1)) (hp : pc + 1 = pc') (k : oG p e below s n0 kc ks Q (T.setTop (mkF m pc' L (.long v :: .long v :: S)))) : oG p e below s n0 kc ks Q (T.setTop (mkF m pc L (.long v :: S))) := by
  obtain ⟨locs, X, eT, N, hx, hby, hml, hZ, hown, hnm, hret, hlk, hn⟩ := H
  subst hp
  exact oG.go (fun t hr => XT.dup2L X.here hx rfl (hb hby hd) rfl hr) k
theorem o_pop (H : oH p l e R s m args below meth c bc ml y rt Z n0 T h cells slots) {v : Value} (hc : v.category = 1) (hd : decode bc pc = .ok (.pop, 1)) (hp : pc + 1 = pc') (k : oG p e below s n0 kc ks Q (T.setTop (mkF m pc' L S))) : oG p e below s n0 kc ks Q (T.setTop (mkF m pc L (v :: S))) := by
  obtain ⟨locs, X, eT, N, hx, hby, hml, hZ, hown, hnm, hret, hlk, hn⟩ := H
  subst hp
  exact oG.go (fun t hr => XT.pop X.here hx rfl (hb hby hd) rfl hc hr) k
theorem o_one {i : Nat} {v : Value} {sl : Slot} (hs : L[i]? = some sl) (h1 : sl = .unset ∨ ∃ z, sl = .val (.int z)) (hv : v.category = 1) : storeLocals L i v = some (L.setIfInBounds i (.val v)) :=
  XS.store1 hs (h1.imp id fun ⟨z, q⟩ => ⟨.int z, q, rfl⟩) hv
theorem o_len {vs : List Int32} : (vs.map Value.int).length.toInt32 = Int32.ofNat vs.length := by rw [List.length_map]
theorem o_get {vs : List Int32} {i : Nat} (h : i < vs.length) : (vs.map Value.int)[i]? = some (.int (vs[i]'h)) := by simp [h]
theorem o_ofNat {n : Nat} (h : n < 2147483648) : (Int32.ofNat n).toInt = n := Int32.toInt_ofNat_of_lt (by omega)
theorem o_lenJ {vs : List Int64} : (vs.map Value.long).length.toInt32 = Int32.ofNat vs.length := by rw [List.length_map]
theorem o_getJ {vs : List Int64} {i : Nat} (h : i < vs.length) : (vs.map Value.long)[i]? = some (.long (vs[i]'h)) := by simp [h]
theorem o_succ {n : Nat} : Int32.ofNat n + 1 = Int32.ofNat (n + 1) := (Int32.ofNat_add n 1).symm
theorem o_bt {A : Prop} [Decidable A] {b : Int32} (e : b = if A then (1 : Int32) else 0) (q : ¬ b = 0) : A := by
  by_cases a : A
  · exact a
  · rw [if_neg a] at e; exact absurd e q
theorem o_bf {A : Prop} [Decidable A] {b : Int32} (e : b = if A then (1 : Int32) else 0) (q : b = 0) : ¬ A := by
  intro a
  exact absurd ((e.trans (if_pos a)).symm.trans q) (by decide)
theorem o_goto (H : oH p l e R s m args below meth c bc ml y rt Z n0 T h cells slots) {o : Int} (hd : decode bc pc = .ok (.goto o, 3)) (ho : 0 ≤ (pc : Int) + o) (hp : ((pc : Int) + o).toNat = pt) (k : oG p e below s n0 kc ks Q (T.setTop (mkF m pt L S))) : oG p e below s n0 kc ks Q (T.setTop (mkF m pc L S)) := by
  obtain ⟨locs, X, eT, N, hx, hby, hml, hZ, hown, hnm, hret, hlk, hn⟩ := H
  exact oG.go (fun t hr => XS.goto X.here hx rfl rfl (hb hby hd) ho hp hr) k
theorem o_icmp_eq (H : oH p l e R s m args below meth c bc ml y rt Z n0 T h cells slots) {o : Int} {x z : Int32} (hd : decode bc pc = .ok (.if_icmp .eq o, 3)) (ho : 0 ≤ (pc : Int) + o) (hp : ((pc : Int) + o).toNat = pt) (hp' : pc + 3 = pc') (kt : x = z → oG p e below s n0 kc ks Q (T.setTop (mkF m pt L S))) (kf : ¬ x = z → oG p e below s n0 kc ks Q (T.setTop (mkF m pc' L S))) : oG p e below s n0 kc ks Q (T.setTop (mkF m pc L (.int z :: .int x :: S))) := by
  by_cases q : x = z
  · have k := kt q
    obtain ⟨locs, X, eT, N, hx, hby, hml, hZ, hown, hnm, hret, hlk, hn⟩ := H
    exact oG.go (fun t hr => XS.icmpYes X.here hx rfl rfl (hb hby hd) rfl (XT.ii_eq_t q) ho hp hr) k
  · have k := kf q
    obtain ⟨locs, X, eT, N, hx, hby, hml, hZ, hown, hnm, hret, hlk, hn⟩ := H
    subst hp'
    exact oG.go (fun t hr => XS.icmpNo X.here hx rfl (hb hby hd) rfl (XT.ii_eq_f q) hr) k
theorem o_if_eq (H : oH p l e R s m args below meth c bc ml y rt Z n0 T h cells slots) {o : Int} {x : Int32} (hd : decode bc pc = .ok (.ifCond .eq o, 3)) (ho : 0 ≤ (pc : Int) + o) (hp : ((pc : Int) + o).toNat = pt) (hp' : pc + 3 = pc') (kt : x = 0 → oG p e below s n0 kc ks Q (T.setTop (mkF m pt L S))) (kf : ¬ x = 0 → oG p e below s n0 kc ks Q (T.setTop (mkF m pc' L S))) : oG p e below s n0 kc ks Q (T.setTop (mkF m pc L (.int x :: S))) := by
  by_cases q : x = 0
  · have k := kt q
    obtain ⟨locs, X, eT, N, hx, hby, hml, hZ, hown, hnm, hret, hlk, hn⟩ := H
    exact oG.go (fun t hr => XS.ifYes X.here hx rfl rfl (hb hby hd) rfl (XT.i0_eq_t q) ho hp hr) k
  · have k := kf q
    obtain ⟨locs, X, eT, N, hx, hby, hml, hZ, hown, hnm, hret, hlk, hn⟩ := H
    subst hp'
    exact oG.go (fun t hr => XS.ifNo X.here hx rfl (hb hby hd) rfl (XT.i0_eq_f q) hr) k
theorem o_ifl_eq (H : oH p l e R s m args below meth c bc ml y rt Z n0 T h cells slots) {o : Int} {x z : Int64} (hd : decode bc pc = .ok (.ifCond .eq o, 3)) (ho : 0 ≤ (pc : Int) + o) (hp : ((pc : Int) + o).toNat = pt) (hp' : pc + 3 = pc') (kt : x = z → oG p e below s n0 kc ks Q (T.setTop (mkF m pt L S))) (kf : ¬ x = z → oG p e below s n0 kc ks Q (T.setTop (mkF m pc' L S))) : oG p e below s n0 kc ks Q (T.setTop (mkF m pc L (.int (XT.cmpL x z) :: S))) := by
  by_cases q : x = z
  · have k := kt q
    obtain ⟨locs, X, eT, N, hx, hby, hml, hZ, hown, hnm, hret, hlk, hn⟩ := H
    exact oG.go (fun t hr => XS.ifYes X.here hx rfl rfl (hb hby hd) rfl (XT.ll_eq_t q) ho hp hr) k
  · have k := kf q
    obtain ⟨locs, X, eT, N, hx, hby, hml, hZ, hown, hnm, hret, hlk, hn⟩ := H
    subst hp'
    exact oG.go (fun t hr => XS.ifNo X.here hx rfl (hb hby hd) rfl (XT.ll_eq_f q) hr) k
theorem o_icmp_ne (H : oH p l e R s m args below meth c bc ml y rt Z n0 T h cells slots) {o : Int} {x z : Int32} (hd : decode bc pc = .ok (.if_icmp .ne o, 3)) (ho : 0 ≤ (pc : Int) + o) (hp : ((pc : Int) + o).toNat = pt) (hp' : pc + 3 = pc') (kt : ¬ x = z → oG p e below s n0 kc ks Q (T.setTop (mkF m pt L S))) (kf : x = z → oG p e below s n0 kc ks Q (T.setTop (mkF m pc' L S))) : oG p e below s n0 kc ks Q (T.setTop (mkF m pc L (.int z :: .int x :: S))) := by
  by_cases q : ¬ x = z
  · have k := kt q
    obtain ⟨locs, X, eT, N, hx, hby, hml, hZ, hown, hnm, hret, hlk, hn⟩ := H
    exact oG.go (fun t hr => XS.icmpYes X.here hx rfl rfl (hb hby hd) rfl (XT.ii_ne_t q) ho hp hr) k
  · have k := kf (Classical.not_not.mp q)
    obtain ⟨locs, X, eT, N, hx, hby, hml, hZ, hown, hnm, hret, hlk, hn⟩ := H
    subst hp'
    exact oG.go (fun t hr => XS.icmpNo X.here hx rfl (hb hby hd) rfl (XT.ii_ne_f (Classical.not_not.mp q)) hr) k
theorem o_if_ne (H : oH p l e R s m args below meth c bc ml y rt Z n0 T h cells slots) {o : Int} {x : Int32} (hd : decode bc pc = .ok (.ifCond .ne o, 3)) (ho : 0 ≤ (pc : Int) + o) (hp : ((pc : Int) + o).toNat = pt) (hp' : pc + 3 = pc') (kt : ¬ x = 0 → oG p e below s n0 kc ks Q (T.setTop (mkF m pt L S))) (kf : x = 0 → oG p e below s n0 kc ks Q (T.setTop (mkF m pc' L S))) : oG p e below s n0 kc ks Q (T.setTop (mkF m pc L (.int x :: S))) := by
  by_cases q : ¬ x = 0
  · have k := kt q
    obtain ⟨locs, X, eT, N, hx, hby, hml, hZ, hown, hnm, hret, hlk, hn⟩ := H
    exact oG.go (fun t hr => XS.ifYes X.here hx rfl rfl (hb hby hd) rfl (XT.i0_ne_t q) ho hp hr) k
  · have k := kf (Classical.not_not.mp q)
    obtain ⟨locs, X, eT, N, hx, hby, hml, hZ, hown, hnm, hret, hlk, hn⟩ := H
    subst hp'
    exact oG.go (fun t hr => XS.ifNo X.here hx rfl (hb hby hd) rfl (XT.i0_ne_f (Classical.not_not.mp q)) hr) k
theorem o_ifl_ne (H : oH p l e R s m args below meth c bc ml y rt Z n0 T h cells slots) {o : Int} {x z : Int64} (hd : decode bc pc = .ok (.ifCond .ne o, 3)) (ho : 0 ≤ (pc : Int) + o) (hp : ((pc : Int) + o).toNat = pt) (hp' : pc + 3 = pc') (kt : ¬ x = z → oG p e below s n0 kc ks Q (T.setTop (mkF m pt L S))) (kf : x = z → oG p e below s n0 kc ks Q (T.setTop (mkF m pc' L S))) : oG p e below s n0 kc ks Q (T.setTop (mkF m pc L (.int (XT.cmpL x z) :: S))) := by
  by_cases q : ¬ x = z
  · have k := kt q
    obtain ⟨locs, X, eT, N, hx, hby, hml, hZ, hown, hnm, hret, hlk, hn⟩ := H
    exact oG.go (fun t hr => XS.ifYes X.here hx rfl rfl (hb hby hd) rfl (XT.ll_ne_t q) ho hp hr) k
  · have k := kf (Classical.not_not.mp q)
    obtain ⟨locs, X, eT, N, hx, hby, hml, hZ, hown, hnm, hret, hlk, hn⟩ := H
    subst hp'
    exact oG.go (fun t hr => XS.ifNo X.here hx rfl (hb hby hd) rfl (XT.ll_ne_f (Classical.not_not.mp q)) hr) k
theorem o_icmp_lt (H : oH p l e R s m args below meth c bc ml y rt Z n0 T h cells slots) {o : Int} {x z : Int32} (hd : decode bc pc = .ok (.if_icmp .lt o, 3)) (ho : 0 ≤ (pc : Int) + o) (hp : ((pc : Int) + o).toNat = pt) (hp' : pc + 3 = pc') (kt : x < z → oG p e below s n0 kc ks Q (T.setTop (mkF m pt L S))) (kf : ¬ x < z → oG p e below s n0 kc ks Q (T.setTop (mkF m pc' L S))) : oG p e below s n0 kc ks Q (T.setTop (mkF m pc L (.int z :: .int x :: S))) := by
  by_cases q : x < z
  · have k := kt q
    obtain ⟨locs, X, eT, N, hx, hby, hml, hZ, hown, hnm, hret, hlk, hn⟩ := H
    exact oG.go (fun t hr => XS.icmpYes X.here hx rfl rfl (hb hby hd) rfl (XT.ii_lt_t q) ho hp hr) k
  · have k := kf q
    obtain ⟨locs, X, eT, N, hx, hby, hml, hZ, hown, hnm, hret, hlk, hn⟩ := H
    subst hp'
    exact oG.go (fun t hr => XS.icmpNo X.here hx rfl (hb hby hd) rfl (XT.ii_lt_f q) hr) k
theorem o_if_lt (H : oH p l e R s m args below meth c bc ml y rt Z n0 T h cells slots) {o : Int} {x : Int32} (hd : decode bc pc = .ok (.ifCond .lt o, 3)) (ho : 0 ≤ (pc : Int) + o) (hp : ((pc : Int) + o).toNat = pt) (hp' : pc + 3 = pc') (kt : x < 0 → oG p e below s n0 kc ks Q (T.setTop (mkF m pt L S))) (kf : ¬ x < 0 → oG p e below s n0 kc ks Q (T.setTop (mkF m pc' L S))) : oG p e below s n0 kc ks Q (T.setTop (mkF m pc L (.int x :: S))) := by
  by_cases q : x < 0
  · have k := kt q
    obtain ⟨locs, X, eT, N, hx, hby, hml, hZ, hown, hnm, hret, hlk, hn⟩ := H
    exact oG.go (fun t hr => XS.ifYes X.here hx rfl rfl (hb hby hd) rfl (XT.i0_lt_t q) ho hp hr) k
  · have k := kf q
    obtain ⟨locs, X, eT, N, hx, hby, hml, hZ, hown, hnm, hret, hlk, hn⟩ := H
    subst hp'
    exact oG.go (fun t hr => XS.ifNo X.here hx rfl (hb hby hd) rfl (XT.i0_lt_f q) hr) k
theorem o_ifl_lt (H : oH p l e R s m args below meth c bc ml y rt Z n0 T h cells slots) {o : Int} {x z : Int64} (hd : decode bc pc = .ok (.ifCond .lt o, 3)) (ho : 0 ≤ (pc : Int) + o) (hp : ((pc : Int) + o).toNat = pt) (hp' : pc + 3 = pc') (kt : x < z → oG p e below s n0 kc ks Q (T.setTop (mkF m pt L S))) (kf : ¬ x < z → oG p e below s n0 kc ks Q (T.setTop (mkF m pc' L S))) : oG p e below s n0 kc ks Q (T.setTop (mkF m pc L (.int (XT.cmpL x z) :: S))) := by
  by_cases q : x < z
  · have k := kt q
    obtain ⟨locs, X, eT, N, hx, hby, hml, hZ, hown, hnm, hret, hlk, hn⟩ := H
    exact oG.go (fun t hr => XS.ifYes X.here hx rfl rfl (hb hby hd) rfl (XT.ll_lt_t q) ho hp hr) k
  · have k := kf q
    obtain ⟨locs, X, eT, N, hx, hby, hml, hZ, hown, hnm, hret, hlk, hn⟩ := H
    subst hp'
    exact oG.go (fun t hr => XS.ifNo X.here hx rfl (hb hby hd) rfl (XT.ll_lt_f q) hr) k
theorem o_icmp_ge (H : oH p l e R s m args below meth c bc ml y rt Z n0 T h cells slots) {o : Int} {x z : Int32} (hd : decode bc pc = .ok (.if_icmp .ge o, 3)) (ho : 0 ≤ (pc : Int) + o) (hp : ((pc : Int) + o).toNat = pt) (hp' : pc + 3 = pc') (kt : ¬ x < z → oG p e below s n0 kc ks Q (T.setTop (mkF m pt L S))) (kf : x < z → oG p e below s n0 kc ks Q (T.setTop (mkF m pc' L S))) : oG p e below s n0 kc ks Q (T.setTop (mkF m pc L (.int z :: .int x :: S))) := by
  by_cases q : ¬ x < z
  · have k := kt q
    obtain ⟨locs, X, eT, N, hx, hby, hml, hZ, hown, hnm, hret, hlk, hn⟩ := H
    exact oG.go (fun t hr => XS.icmpYes X.here hx rfl rfl (hb hby hd) rfl (XT.ii_ge_t q) ho hp hr) k
  · have k := kf (Classical.not_not.mp q)
    obtain ⟨locs, X, eT, N, hx, hby, hml, hZ, hown, hnm, hret, hlk, hn⟩ := H
    subst hp'
    exact oG.go (fun t hr => XS.icmpNo X.here hx rfl (hb hby hd) rfl (XT.ii_ge_f (Classical.not_not.mp q)) hr) k
theorem o_if_ge (H : oH p l e R s m args below meth c bc ml y rt Z n0 T h cells slots) {o : Int} {x : Int32} (hd : decode bc pc = .ok (.ifCond .ge o, 3)) (ho : 0 ≤ (pc : Int) + o) (hp : ((pc : Int) + o).toNat = pt) (hp' : pc + 3 = pc') (kt : ¬ x < 0 → oG p e below s n0 kc ks Q (T.setTop (mkF m pt L S))) (kf : x < 0 → oG p e below s n0 kc ks Q (T.setTop (mkF m pc' L S))) : oG p e below s n0 kc ks Q (T.setTop (mkF m pc L (.int x :: S))) := by
  by_cases q : ¬ x < 0
  · have k := kt q
    obtain ⟨locs, X, eT, N, hx, hby, hml, hZ, hown, hnm, hret, hlk, hn⟩ := H
    exact oG.go (fun t hr => XS.ifYes X.here hx rfl rfl (hb hby hd) rfl (XT.i0_ge_t q) ho hp hr) k
  · have k := kf (Classical.not_not.mp q)
    obtain ⟨locs, X, eT, N, hx, hby, hml, hZ, hown, hnm, hret, hlk, hn⟩ := H
    subst hp'
    exact oG.go (fun t hr => XS.ifNo X.here hx rfl (hb hby hd) rfl (XT.i0_ge_f (Classical.not_not.mp q)) hr) k
theorem o_ifl_ge (H : oH p l e R s m args below meth c bc ml y rt Z n0 T h cells slots) {o : Int} {x z : Int64} (hd : decode bc pc = .ok (.ifCond .ge o, 3)) (ho : 0 ≤ (pc : Int) + o) (hp : ((pc : Int) + o).toNat = pt) (hp' : pc + 3 = pc') (kt : ¬ x < z → oG p e below s n0 kc ks Q (T.setTop (mkF m pt L S))) (kf : x < z → oG p e below s n0 kc ks Q (T.setTop (mkF m pc' L S))) : oG p e below s n0 kc ks Q (T.setTop (mkF m pc L (.int (XT.cmpL x z) :: S))) := by
  by_cases q : ¬ x < z
  · have k := kt q
    obtain ⟨locs, X, eT, N, hx, hby, hml, hZ, hown, hnm, hret, hlk, hn⟩ := H
    exact oG.go (fun t hr => XS.ifYes X.here hx rfl rfl (hb hby hd) rfl (XT.ll_ge_t q) ho hp hr) k
  · have k := kf (Classical.not_not.mp q)
    obtain ⟨locs, X, eT, N, hx, hby, hml, hZ, hown, hnm, hret, hlk, hn⟩ := H
    subst hp'
    exact oG.go (fun t hr => XS.ifNo X.here hx rfl (hb hby hd) rfl (XT.ll_ge_f (Classical.not_not.mp q)) hr) k
theorem o_icmp_gt (H : oH p l e R s m args below meth c bc ml y rt Z n0 T h cells slots) {o : Int} {x z : Int32} (hd : decode bc pc = .ok (.if_icmp .gt o, 3)) (ho : 0 ≤ (pc : Int) + o) (hp : ((pc : Int) + o).toNat = pt) (hp' : pc + 3 = pc') (kt : z < x → oG p e below s n0 kc ks Q (T.setTop (mkF m pt L S))) (kf : ¬ z < x → oG p e below s n0 kc ks Q (T.setTop (mkF m pc' L S))) : oG p e below s n0 kc ks Q (T.setTop (mkF m pc L (.int z :: .int x :: S))) := by
  by_cases q : z < x
  · have k := kt q
    obtain ⟨locs, X, eT, N, hx, hby, hml, hZ, hown, hnm, hret, hlk, hn⟩ := H
    exact oG.go (fun t hr => XS.icmpYes X.here hx rfl rfl (hb hby hd) rfl (XT.ii_gt_t q) ho hp hr) k
  · have k := kf q
    obtain ⟨locs, X, eT, N, hx, hby, hml, hZ, hown, hnm, hret, hlk, hn⟩ := H
    subst hp'
    exact oG.go (fun t hr => XS.icmpNo X.here hx rfl (hb hby hd) rfl (XT.ii_gt_f q) hr) k
theorem o_if_gt (H : oH p l e R s m args below meth c bc ml y rt Z n0 T h cells slots) {o : Int} {x : Int32} (hd : decode bc pc = .ok (.ifCond .gt o, 3)) (ho : 0 ≤ (pc : Int) + o) (hp : ((pc : Int) + o).toNat = pt) (hp' : pc + 3 = pc') (kt : 0 < x → oG p e below s n0 kc ks Q (T.setTop (mkF m pt L S))) (kf : ¬ 0 < x → oG p e below s n0 kc ks Q (T.setTop (mkF m pc' L S))) : oG p e below s n0 kc ks Q (T.setTop (mkF m pc L (.int x :: S))) := by
  by_cases q : 0 < x
  · have k := kt q
    obtain ⟨locs, X, eT, N, hx, hby, hml, hZ, hown, hnm, hret, hlk, hn⟩ := H
    exact oG.go (fun t hr => XS.ifYes X.here hx rfl rfl (hb hby hd) rfl (XT.i0_gt_t q) ho hp hr) k
  · have k := kf q
    obtain ⟨locs, X, eT, N, hx, hby, hml, hZ, hown, hnm, hret, hlk, hn⟩ := H
    subst hp'
    exact oG.go (fun t hr => XS.ifNo X.here hx rfl (hb hby hd) rfl (XT.i0_gt_f q) hr) k
theorem o_ifl_gt (H : oH p l e R s m args below meth c bc ml y rt Z n0 T h cells slots) {o : Int} {x z : Int64} (hd : decode bc pc = .ok (.ifCond .gt o, 3)) (ho : 0 ≤ (pc : Int) + o) (hp : ((pc : Int) + o).toNat = pt) (hp' : pc + 3 = pc') (kt : z < x → oG p e below s n0 kc ks Q (T.setTop (mkF m pt L S))) (kf : ¬ z < x → oG p e below s n0 kc ks Q (T.setTop (mkF m pc' L S))) : oG p e below s n0 kc ks Q (T.setTop (mkF m pc L (.int (XT.cmpL x z) :: S))) := by
  by_cases q : z < x
  · have k := kt q
    obtain ⟨locs, X, eT, N, hx, hby, hml, hZ, hown, hnm, hret, hlk, hn⟩ := H
    exact oG.go (fun t hr => XS.ifYes X.here hx rfl rfl (hb hby hd) rfl (XT.ll_gt_t q) ho hp hr) k
  · have k := kf q
    obtain ⟨locs, X, eT, N, hx, hby, hml, hZ, hown, hnm, hret, hlk, hn⟩ := H
    subst hp'
    exact oG.go (fun t hr => XS.ifNo X.here hx rfl (hb hby hd) rfl (XT.ll_gt_f q) hr) k
theorem o_icmp_le (H : oH p l e R s m args below meth c bc ml y rt Z n0 T h cells slots) {o : Int} {x z : Int32} (hd : decode bc pc = .ok (.if_icmp .le o, 3)) (ho : 0 ≤ (pc : Int) + o) (hp : ((pc : Int) + o).toNat = pt) (hp' : pc + 3 = pc') (kt : ¬ z < x → oG p e below s n0 kc ks Q (T.setTop (mkF m pt L S))) (kf : z < x → oG p e below s n0 kc ks Q (T.setTop (mkF m pc' L S))) : oG p e below s n0 kc ks Q (T.setTop (mkF m pc L (.int z :: .int x :: S))) := by
  by_cases q : ¬ z < x
  · have k := kt q
    obtain ⟨locs, X, eT, N, hx, hby, hml, hZ, hown, hnm, hret, hlk, hn⟩ := H
    exact oG.go (fun t hr => XS.icmpYes X.here hx rfl rfl (hb hby hd) rfl (XT.ii_le_t q) ho hp hr) k
  · have k := kf (Classical.not_not.mp q)
    obtain ⟨locs, X, eT, N, hx, hby, hml, hZ, hown, hnm, hret, hlk, hn⟩ := H
    subst hp'
    exact oG.go (fun t hr => XS.icmpNo X.here hx rfl (hb hby hd) rfl (XT.ii_le_f (Classical.not_not.mp q)) hr) k
theorem o_if_le (H : oH p l e R s m args below meth c bc ml y rt Z n0 T h cells slots) {o : Int} {x : Int32} (hd : decode bc pc = .ok (.ifCond .le o, 3)) (ho : 0 ≤ (pc : Int) + o) (hp : ((pc : Int) + o).toNat = pt) (hp' : pc + 3 = pc') (kt : ¬ 0 < x → oG p e below s n0 kc ks Q (T.setTop (mkF m pt L S))) (kf : 0 < x → oG p e below s n0 kc ks Q (T.setTop (mkF m pc' L S))) : oG p e below s n0 kc ks Q (T.setTop (mkF m pc L (.int x :: S))) := by
  by_cases q : ¬ 0 < x
  · have k := kt q
    obtain ⟨locs, X, eT, N, hx, hby, hml, hZ, hown, hnm, hret, hlk, hn⟩ := H
    exact oG.go (fun t hr => XS.ifYes X.here hx rfl rfl (hb hby hd) rfl (XT.i0_le_t q) ho hp hr) k
  · have k := kf (Classical.not_not.mp q)
    obtain ⟨locs, X, eT, N, hx, hby, hml, hZ, hown, hnm, hret, hlk, hn⟩ := H
    subst hp'
    exact oG.go (fun t hr => XS.ifNo X.here hx rfl (hb hby hd) rfl (XT.i0_le_f (Classical.not_not.mp q)) hr) k
theorem o_ifl_le (H : oH p l e R s m args below meth c bc ml y rt Z n0 T h cells slots) {o : Int} {x z : Int64} (hd : decode bc pc = .ok (.ifCond .le o, 3)) (ho : 0 ≤ (pc : Int) + o) (hp : ((pc : Int) + o).toNat = pt) (hp' : pc + 3 = pc') (kt : ¬ z < x → oG p e below s n0 kc ks Q (T.setTop (mkF m pt L S))) (kf : z < x → oG p e below s n0 kc ks Q (T.setTop (mkF m pc' L S))) : oG p e below s n0 kc ks Q (T.setTop (mkF m pc L (.int (XT.cmpL x z) :: S))) := by
  by_cases q : ¬ z < x
  · have k := kt q
    obtain ⟨locs, X, eT, N, hx, hby, hml, hZ, hown, hnm, hret, hlk, hn⟩ := H
    exact oG.go (fun t hr => XS.ifYes X.here hx rfl rfl (hb hby hd) rfl (XT.ll_le_t q) ho hp hr) k
  · have k := kf (Classical.not_not.mp q)
    obtain ⟨locs, X, eT, N, hx, hby, hml, hZ, hown, hnm, hret, hlk, hn⟩ := H
    subst hp'
    exact oG.go (fun t hr => XS.ifNo X.here hx rfl (hb hby hd) rfl (XT.ll_le_f (Classical.not_not.mp q)) hr) k
theorem o_icmp_t (H : oH p l e R s m args below meth c bc ml y rt Z n0 T h cells slots) {o : Int} {cd : ClassFile.Cond} {x z : Int32} (hd : decode bc pc = .ok (.if_icmp cd o, 3)) (hc : if_icmp.holds cd x z = true) (ho : 0 ≤ (pc : Int) + o) (hp : ((pc : Int) + o).toNat = pt) (k : oG p e below s n0 kc ks Q (T.setTop (mkF m pt L S))) : oG p e below s n0 kc ks Q (T.setTop (mkF m pc L (.int z :: .int x :: S))) := by
  obtain ⟨locs, X, eT, N, hx, hby, hml, hZ, hown, hnm, hret, hlk, hn⟩ := H
  exact oG.go (fun t hr => XS.icmpYes X.here hx rfl rfl (hb hby hd) rfl hc ho hp hr) k
theorem o_icmp_f (H : oH p l e R s m args below meth c bc ml y rt Z n0 T h cells slots) {o : Int} {cd : ClassFile.Cond} {x z : Int32} (hd : decode bc pc = .ok (.if_icmp cd o, 3)) (hc : if_icmp.holds cd x z = false) (hp : pc + 3 = pc') (k : oG p e below s n0 kc ks Q (T.setTop (mkF m pc' L S))) : oG p e below s n0 kc ks Q (T.setTop (mkF m pc L (.int z :: .int x :: S))) := by
  obtain ⟨locs, X, eT, N, hx, hby, hml, hZ, hown, hnm, hret, hlk, hn⟩ := H
  subst hp
  exact oG.go (fun t hr => XS.icmpNo X.here hx rfl (hb hby hd) rfl hc hr) k
theorem o_if_t (H : oH p l e R s m args below meth c bc ml y rt Z n0 T h cells slots) {o : Int} {cd : ClassFile.Cond} {x : Int32} (hd : decode bc pc = .ok (.ifCond cd o, 3)) (hc : ifCond.holds cd x = true) (ho : 0 ≤ (pc : Int) + o) (hp : ((pc : Int) + o).toNat = pt) (k : oG p e below s n0 kc ks Q (T.setTop (mkF m pt L S))) : oG p e below s n0 kc ks Q (T.setTop (mkF m pc L (.int x :: S))) := by
  obtain ⟨locs, X, eT, N, hx, hby, hml, hZ, hown, hnm, hret, hlk, hn⟩ := H
  exact oG.go (fun t hr => XS.ifYes X.here hx rfl rfl (hb hby hd) rfl hc ho hp hr) k
theorem o_if_f (H : oH p l e R s m args below meth c bc ml y rt Z n0 T h cells slots) {o : Int} {cd : ClassFile.Cond} {x : Int32} (hd : decode bc pc = .ok (.ifCond cd o, 3)) (hc : ifCond.holds cd x = false) (hp : pc + 3 = pc') (k : oG p e below s n0 kc ks Q (T.setTop (mkF m pc' L S))) : oG p e below s n0 kc ks Q (T.setTop (mkF m pc L (.int x :: S))) := by
  obtain ⟨locs, X, eT, N, hx, hby, hml, hZ, hown, hnm, hret, hlk, hn⟩ := H
  subst hp
  exact oG.go (fun t hr => XS.ifNo X.here hx rfl (hb hby hd) rfl hc hr) k
theorem o_ifnull_t (H : oH p l e R s m args below meth c bc ml y rt Z n0 T h cells slots) {o : Int} (hd : decode bc pc = .ok (.ifnull o, 3)) (ho : 0 ≤ (pc : Int) + o) (hp : ((pc : Int) + o).toNat = pt) (k : oG p e below s n0 kc ks Q (T.setTop (mkF m pt L S))) : oG p e below s n0 kc ks Q (T.setTop (mkF m pc L (.null :: S))) := by
  obtain ⟨locs, X, eT, N, hx, hby, hml, hZ, hown, hnm, hret, hlk, hn⟩ := H
  exact oG.go (fun t hr => XS.ifnullYes X.here hx rfl rfl (hb hby hd) rfl ho hp hr) k
theorem o_ifnull_f (H : oH p l e R s m args below meth c bc ml y rt Z n0 T h cells slots) {o : Int} {a : Addr} (hd : decode bc pc = .ok (.ifnull o, 3)) (hp : pc + 3 = pc') (k : oG p e below s n0 kc ks Q (T.setTop (mkF m pc' L S))) : oG p e below s n0 kc ks Q (T.setTop (mkF m pc L (.ref a :: S))) := by
  obtain ⟨locs, X, eT, N, hx, hby, hml, hZ, hown, hnm, hret, hlk, hn⟩ := H
  subst hp
  exact oG.go (fun t hr => XS.ifnullNo X.here hx rfl (hb hby hd) rfl hr) k
theorem o_ifnonnull_t (H : oH p l e R s m args below meth c bc ml y rt Z n0 T h cells slots) {o : Int} {a : Addr} (hd : decode bc pc = .ok (.ifnonnull o, 3)) (ho : 0 ≤ (pc : Int) + o) (hp : ((pc : Int) + o).toNat = pt) (k : oG p e below s n0 kc ks Q (T.setTop (mkF m pt L S))) : oG p e below s n0 kc ks Q (T.setTop (mkF m pc L (.ref a :: S))) := by
  obtain ⟨locs, X, eT, N, hx, hby, hml, hZ, hown, hnm, hret, hlk, hn⟩ := H
  exact oG.go (fun t hr => XT.ifnonnullYes X.here hx rfl rfl (hb hby hd) rfl ho hp hr) k
theorem o_ifnonnull_f (H : oH p l e R s m args below meth c bc ml y rt Z n0 T h cells slots) {o : Int} (hd : decode bc pc = .ok (.ifnonnull o, 3)) (hp : pc + 3 = pc') (k : oG p e below s n0 kc ks Q (T.setTop (mkF m pc' L S))) : oG p e below s n0 kc ks Q (T.setTop (mkF m pc L (.null :: S))) := by
  obtain ⟨locs, X, eT, N, hx, hby, hml, hZ, hown, hnm, hret, hlk, hn⟩ := H
  subst hp
  exact oG.go (fun t hr => XT.ifnonnullNo X.here hx rfl (hb hby hd) rfl hr) k
theorem o_acmp_t (H : oH p l e R s m args below meth c bc ml y rt Z n0 T h cells slots) {o : Int} {cd : ClassFile.ACond} {u w : Value} (hd : decode bc pc = .ok (.if_acmp cd o, 3)) (hu : u.isRef = true) (hw : w.isRef = true) (hc : XT.acmp cd u w = true) (ho : 0 ≤ (pc : Int) + o) (hp : ((pc : Int) + o).toNat = pt) (k : oG p e below s n0 kc ks Q (T.setTop (mkF m pt L S))) : oG p e below s n0 kc ks Q (T.setTop (mkF m pc L (w :: u :: S))) := by
  obtain ⟨locs, X, eT, N, hx, hby, hml, hZ, hown, hnm, hret, hlk, hn⟩ := H
  exact oG.go (fun t hr => XT.acmpYes X.here hx rfl rfl (hb hby hd) rfl hu hw hc ho hp hr) k
theorem o_acmp_f (H : oH p l e R s m args below meth c bc ml y rt Z n0 T h cells slots) {o : Int} {cd : ClassFile.ACond} {u w : Value} (hd : decode bc pc = .ok (.if_acmp cd o, 3)) (hu : u.isRef = true) (hw : w.isRef = true) (hc : XT.acmp cd u w = false) (hp : pc + 3 = pc') (k : oG p e below s n0 kc ks Q (T.setTop (mkF m pc' L S))) : oG p e below s n0 kc ks Q (T.setTop (mkF m pc L (w :: u :: S))) := by
  obtain ⟨locs, X, eT, N, hx, hby, hml, hZ, hown, hnm, hret, hlk, hn⟩ := H
  subst hp
  exact oG.go (fun t hr => XT.acmpNo X.here hx rfl (hb hby hd) rfl hu hw hc hr) k
theorem o_ldcI (H : oH p l e R s m args below meth c bc ml y rt Z n0 T h cells slots) {i : Nat} (v : Int32) (w : (Jvm.Cond.constant y.cls i v).before a0 Z = true) (hd : decode bc pc = .ok (.ldc i, 2)) (hp : pc + 2 = pc') (k : oG p e below s n0 kc ks Q (T.setTop (mkF m pc' L (.int v :: S)))) : oG p e below s n0 kc ks Q (T.setTop (mkF m pc L S)) := by
  obtain ⟨locs, X, eT, N, hx, hby, hml, hZ, hown, hnm, hret, hlk, hn⟩ := H
  subst hp
  exact oG.go (X.ldcInt hx hown (mvT hZ w) (g := mkF m pc L S) rfl (hb hby hd)) k
theorem o_ldcJ (H : oH p l e R s m args below meth c bc ml y rt Z n0 T h cells slots) {i : Nat} (v : Int64) (w : (Jvm.Cond.constantLong y.cls i v).before a0 Z = true) (hd : decode bc pc = .ok (.ldc2_w i, 3)) (hp : pc + 3 = pc') (k : oG p e below s n0 kc ks Q (T.setTop (mkF m pc' L (.long v :: S)))) : oG p e below s n0 kc ks Q (T.setTop (mkF m pc L S)) := by
  obtain ⟨locs, X, eT, N, hx, hby, hml, hZ, hown, hnm, hret, hlk, hn⟩ := H
  subst hp
  exact oG.go (X.ldc2Long hx hown (mvT hZ w) (g := mkF m pc L S) rfl (hb hby hd)) k
theorem o_ireturn (H : oH p l e R s m args below meth c bc ml y rt Z n0 T h cells slots) {z : Int32} (hrt : rt = some .int) (hd : decode bc pc = .ok (.ireturn, 1)) (hk : cells ≤ kc) (hs : slots ≤ ks) (q : Q (some (.int z)) h) : oG p e below s n0 kc ks Q (T.setTop (mkF m pc L (.int z :: S))) := by
  obtain ⟨locs, X, eT, N, hx, hby, hml, hZ, hown, hnm, hret, hlk, hn⟩ := H
  obtain ⟨fs, hr, hrun, hended, hW, hsame⟩ := X.leave (v := (some (.int z))) (fun hh => by first | rfl | (rw [hret, hrt] at hh; cases hh)) hlk
  refine ⟨_, _, retI X hx (hret.trans hrt) (hb hby hd) hr, hrun, hended, _, _, rfl, ⟨?_, N⟩, ⟨_, rfl⟩, hW, hsame.mono hk hs⟩
  show Q _ T.heap
  rw [eT]; exact q
theorem o_nreturn (H : oH p l e R s m args below meth c bc ml y rt Z n0 T h cells slots) {z : Int32} (t : FieldType) (hrt : rt = some t) (ht : t = .boolean ∨ t = .byte ∨ t = .char ∨ t = .short) (hd : decode bc pc = .ok (.ireturn, 1)) (hk : cells ≤ kc) (hs : slots ≤ ks) (q : Q (some (.int (nar t z))) h) : oG p e below s n0 kc ks Q (T.setTop (mkF m pc L (.int z :: S))) := by
  obtain ⟨locs, X, eT, N, hx, hby, hml, hZ, hown, hnm, hret, hlk, hn⟩ := H
  obtain ⟨fs, hr, hrun, hended, hW, hsame⟩ := X.leave (v := (some (.int (nar t z)))) (fun hh => by first | rfl | (rw [hret, hrt] at hh; cases hh)) hlk
  refine ⟨_, _, retN X hx (hret.trans hrt) ht (hb hby hd) hr, hrun, hended, _, _, rfl, ⟨?_, N⟩, ⟨_, rfl⟩, hW, hsame.mono hk hs⟩
  show Q _ T.heap
  rw [eT]; exact q
theorem o_lreturn (H : oH p l e R s m args below meth c bc ml y rt Z n0 T h cells slots) {z : Int64} (hrt : rt = some .long) (hd : decode bc pc = .ok (.lreturn, 1)) (hk : cells ≤ kc) (hs : slots ≤ ks) (q : Q (some (.long z)) h) : oG p e below s n0 kc ks Q (T.setTop (mkF m pc L (.long z :: S))) := by
  obtain ⟨locs, X, eT, N, hx, hby, hml, hZ, hown, hnm, hret, hlk, hn⟩ := H
  obtain ⟨fs, hr, hrun, hended, hW, hsame⟩ := X.leave (v := (some (.long z))) (fun hh => by first | rfl | (rw [hret, hrt] at hh; cases hh)) hlk
  refine ⟨_, _, retOut X hx (w := .long z) (i := .lreturn) (hret.trans hrt) rfl (Or.inr (Or.inl ⟨rfl, rfl, z, rfl⟩)) (hb hby hd) hr, hrun, hended, _, _, rfl, ⟨?_, N⟩, ⟨_, rfl⟩, hW, hsame.mono hk hs⟩
  show Q _ T.heap
  rw [eT]; exact q
theorem o_areturn (H : oH p l e R s m args below meth c bc ml y rt Z n0 T h cells slots) {v : Value} {t : FieldType} (hrt : rt = some t) (ht : t.isReference = true) (hv : v.isRef = true) (hna : narrow t v = v) (hd : decode bc pc = .ok (.areturn, 1)) (hk : cells ≤ kc) (hs : slots ≤ ks) (q : Q (some v) h) : oG p e below s n0 kc ks Q (T.setTop (mkF m pc L (v :: S))) := by
  obtain ⟨locs, X, eT, N, hx, hby, hml, hZ, hown, hnm, hret, hlk, hn⟩ := H
  obtain ⟨fs, hr, hrun, hended, hW, hsame⟩ := X.leave (v := (some v)) (fun hh => by first | rfl | (rw [hret, hrt] at hh; cases hh)) hlk
  refine ⟨_, _, retOut X hx (w := v) (i := .areturn) (hret.trans hrt) hna (Or.inr (Or.inr (Or.inr (Or.inr ⟨rfl, ht, hv⟩)))) (hb hby hd) hr, hrun, hended, _, _, rfl, ⟨?_, N⟩, ⟨_, rfl⟩, hW, hsame.mono hk hs⟩
  show Q _ T.heap
  rw [eT]; exact q
theorem o_return (H : oH p l e R s m args below meth c bc ml y rt Z n0 T h cells slots)  (hrt : rt = none) (hd : decode bc pc = .ok (.return_, 1)) (hk : cells ≤ kc) (hs : slots ≤ ks) (q : Q none h) : oG p e below s n0 kc ks Q (T.setTop (mkF m pc L [])) := by
  obtain ⟨locs, X, eT, N, hx, hby, hml, hZ, hown, hnm, hret, hlk, hn⟩ := H
  obtain ⟨fs, hr, hrun, hended, hW, hsame⟩ := X.leave (v := none) (fun hh => by first | rfl | (rw [hret, hrt] at hh; cases hh)) hlk
  refine ⟨_, _, X.returnOut hx (hret.trans hrt) (hb hby hd) hr, hrun, hended, _, _, rfl, ⟨?_, N⟩, ⟨_, rfl⟩, hW, hsame.mono hk hs⟩
  show Q _ T.heap
  rw [eT]; exact q
theorem o_new (H : oH p l e R s m args below meth c bc ml y rt Z n0 T h cells slots) {i nn : Nat} {C : String} (w : (Jvm.Cond.classLink y.cls i C).before a0 Z = true) (wi : (Jvm.Cond.instantiable C nn).before a0 Z = true) (wz : (Jvm.Cond.initialized C).before a0 Z = true) (hd : decode bc pc = .ok (.new i, 3)) (hp : pc + 3 = pc') (hc : cells + 1 ≤ R.cells) (hl : slots + nn ≤ R.slots)
    (k : ∀ (T' : State) (h' : Heap) (a : Addr), a = h.size → oH p l e R s m args below meth c bc ml y rt Z n0 T' h' (cells + 1) (slots + nn) → Ext h h' → Exa Z h' a C → (∀ {O nm d : String} {ty : FieldType}, Laid Z a0 C O nm d → parseFieldDescriptor d = some ty → Fld Z h' a O nm d (defaultValue ty)) → oG p e below s n0 kc ks Q (T'.setTop (mkF m pc' L (.ref a :: S)))) : oG p e below s n0 kc ks Q (T.setTop (mkF m pc L S)) := by
  obtain ⟨locs, X, eT, N, hx, hby, hml, hZ, hown, hnm, hret, hlk, hn⟩ := H
  subst hp
  obtain ⟨T', h', X', e', E, A, D, -, st⟩ := newO X hx hZ hown w wi wz eT (g := mkF m pc L S) rfl (hb hby hd) hc hl
  exact oG.go st (k T' h' _ rfl ⟨locs, X', e', N, hx, hby, hml, hZ, hown, hnm, hret, hlk, hn⟩ E A (fun La ht => D La ht))
theorem o_initO (H : oH p l e R s m args below meth c bc ml y rt Z n0 T h cells slots) {i : Nat} {a : Addr} (w1 : (Jvm.Cond.methodLink y.cls i Lib.objectInit).before a0 Z = true) (w2 : (Jvm.Cond.instanceMethod Lib.objectInit).before a0 Z = true) (w3 : (Jvm.Cond.code Lib.objectInit ⟨#[0xb1]⟩ 1 none).before a0 Z = true) (hd : decode bc pc = .ok (.invokespecial i, 3)) (hp : pc + 3 = pc') (hsz : L.size = ml) (hf : 1 ≤ R.frames) (hlo : (S.map fun v => v.category).sum + 12 ≤ R.locals)
    (k : ∀ (T' : State), oH p l e R s m args below meth c bc ml y rt Z n0 T' h cells slots → oG p e below s n0 kc ks Q (T'.setTop (mkF m pc' L S))) : oG p e below s n0 kc ks Q (T.setTop (mkF m pc L (.ref a :: S))) := by
  obtain ⟨locs, X, eT, N, hx, hby, hml, hZ, hown, hnm, hret, hlk, hn⟩ := H
  subst hp
  obtain ⟨T', X', e', st⟩ := initO X hx hZ hown w1 w2 w3 eT (g := mkF m pc L (.ref a :: S)) rfl (by rw [hml]; exact hsz) rfl (hb hby hd) hf (W := (S.map fun v => v.category).sum) (by show 2 * 0 + _ ≤ _; omega) hlo
  exact oG.go st (k T' ⟨locs, X', e', N, hx, hby, hml, hZ, hown, hnm, hret, hlk, hn⟩)
theorem o_getF (H : oH p l e R s m args below meth c bc ml y rt Z n0 T h cells slots) {i : Nat} {a : Addr} {C f d host : String} {v : Value} (w : (Jvm.Cond.fieldLink y.cls i C f d).before a0 Z = true ∨ (Jvm.Cond.fieldLinkNest y.cls i C f d host).before a0 Z = true) (F : Fld Z h a C f d v) (hd : decode bc pc = .ok (.getfield i, 3)) (hp : pc + 3 = pc')
    (k : ∀ (T' : State), oH p l e R s m args below meth c bc ml y rt Z n0 T' h cells slots → oG p e below s n0 kc ks Q (T'.setTop (mkF m pc' L (v :: S)))) : oG p e below s n0 kc ks Q (T.setTop (mkF m pc L (.ref a :: S))) := by
  obtain ⟨locs, X, eT, N, hx, hby, hml, hZ, hown, hnm, hret, hlk, hn⟩ := H
  subst hp
  obtain ⟨T', X', e', st⟩ := getF X hx hZ hown (host := host) w Via.refl eT F (g := mkF m pc L (.ref a :: S)) rfl rfl (hb hby hd)
  exact oG.go st (k T' ⟨locs, X', e', N, hx, hby, hml, hZ, hown, hnm, hret, hlk, hn⟩)
theorem o_putF (H : oH p l e R s m args below meth c bc ml y rt Z n0 T h cells slots) {i kk : Nat} {a : Addr} {C K f d host : String} {v old : Value} {ty : FieldType} (w : (Jvm.Cond.fieldLink y.cls i C f d).before a0 Z = true ∨ (Jvm.Cond.fieldLinkNest y.cls i C f d host).before a0 Z = true) (F : Fld Z h a C f d old) (E : Exa Z h a K) (wl : (Jvm.Cond.lays K C f d).before a0 Z = true ∨ ((Jvm.Cond.laysFinal K C f d).before a0 Z = true ∧ y.cls = C ∧ y.name = "<init>")) (wi : (Jvm.Cond.instantiable K kk).before a0 Z = true) (hty : parseFieldDescriptor d = some ty) (hna : narrow ty v = v) (hft : fits ty v = true) (ha : n0 ≤ a) (hd : decode bc pc = .ok (.putfield i, 3)) (hp : pc + 3 = pc')
    (k : ∀ (T' : State) (h' : Heap), oH p l e R s m args below meth c bc ml y rt Z n0 T' h' cells slots → Wr h h' a (Jvm.RoadKit.slotOf Z C f d) v → oG p e below s n0 kc ks Q (T'.setTop (mkF m pc' L S))) : oG p e below s n0 kc ks Q (T.setTop (mkF m pc L (v :: .ref a :: S))) := by
  obtain ⟨locs, X, eT, N, hx, hby, hml, hZ, hown, hnm, hret, hlk, hn⟩ := H
  subst hp
  obtain ⟨T', h', X', e', W, st⟩ := putF X hx hZ hown (host := host) w Via.refl eT F E (wl.imp id fun q => ⟨q.1, q.2.1, hnm.trans q.2.2⟩) wi hty hna hft (g := mkF m pc L (v :: .ref a :: S)) rfl rfl (hb hby hd)
  exact oG.go st (k T' h' ⟨_, X', e', Fr.snoc X' N ha, hx, hby, hml, hZ, hown, hnm, hret, hlk, hn⟩ W)
theorem o_putFN (H : oH p l e R s m args below meth c bc ml y rt Z n0 T h cells slots) {i kk : Nat} {a : Addr} {C K f d : String} {v v' old : Value} {ty : FieldType} (w : (Jvm.Cond.fieldLink y.cls i C f d).before a0 Z = true) (F : Fld Z h a C f d old) (E : Exa Z h a K) (wl : (Jvm.Cond.lays K C f d).before a0 Z = true ∨ ((Jvm.Cond.laysFinal K C f d).before a0 Z = true ∧ y.cls = C ∧ y.name = "<init>")) (wi : (Jvm.Cond.instantiable K kk).before a0 Z = true) (hty : parseFieldDescriptor d = some ty) (hna : narrow ty v = v') (hft : fits ty v' = true) (ha : n0 ≤ a) (hd : decode bc pc = .ok (.putfield i, 3)) (hp : pc + 3 = pc')
    (k : ∀ (T' : State) (h' : Heap), oH p l e R s m args below meth c bc ml y rt Z n0 T' h' cells slots → Wr h h' a (Jvm.RoadKit.slotOf Z C f d) v' → oG p e below s n0 kc ks Q (T'.setTop (mkF m pc' L S))) : oG p e below s n0 kc ks Q (T.setTop (mkF m pc L (v :: .ref a :: S))) := by
  obtain ⟨locs, X, eT, N, hx, hby, hml, hZ, hown, hnm, hret, hlk, hn⟩ := H
  subst hp
  obtain ⟨T', h', X', e', W, st⟩ := putFN X hx hZ hown w Via.refl eT F E (wl.imp id fun q => ⟨q.1, q.2.1, hnm.trans q.2.2⟩) wi hty hna hft (g := mkF m pc L (v :: .ref a :: S)) rfl rfl (hb hby hd)
  exact oG.go st (k T' h' ⟨_, X', e', Fr.snoc X' N ha, hx, hby, hml, hZ, hown, hnm, hret, hlk, hn⟩ W)
theorem o_getS (H : oH p l e R s m args below meth c bc ml y rt Z n0 T h cells slots) {i : Nat} {C f d host : String} {v : Value} (w : (Jvm.Cond.fieldLink y.cls i C f d).before a0 Z = true ∨ (Jvm.Cond.fieldLinkNest y.cls i C f d host).before a0 Z = true) (F : Sta Z h C f d v) (hd : decode bc pc = .ok (.getstatic i, 3)) (hp : pc + 3 = pc')
    (k : ∀ (T' : State), oH p l e R s m args below meth c bc ml y rt Z n0 T' h cells slots → oG p e below s n0 kc ks Q (T'.setTop (mkF m pc' L (v :: S)))) : oG p e below s n0 kc ks Q (T.setTop (mkF m pc L S)) := by
  obtain ⟨locs, X, eT, N, hx, hby, hml, hZ, hown, hnm, hret, hlk, hn⟩ := H
  subst hp
  obtain ⟨T', X', e', st⟩ := getS2 X hx hZ hown (host := host) w Via.refl eT F (g := mkF m pc L S) rfl (hb hby hd)
  exact oG.go st (k T' ⟨locs, X', e', N, hx, hby, hml, hZ, hown, hnm, hret, hlk, hn⟩)
theorem o_instY (H : oH p l e R s m args below meth c bc ml y rt Z n0 T h cells slots) {i : Nat} {a : Addr} {K : String} (w : (Jvm.Cond.classLink y.cls i K).before a0 Z = true) (I : Ins Z h a K true) (hd : decode bc pc = .ok (.instanceof i, 3)) (hp : pc + 3 = pc') (k : ∀ (T' : State), oH p l e R s m args below meth c bc ml y rt Z n0 T' h cells slots → oG p e below s n0 kc ks Q (T'.setTop (mkF m pc' L (.int 1 :: S)))) : oG p e below s n0 kc ks Q (T.setTop (mkF m pc L (.ref a :: S))) := by
  obtain ⟨locs, X, eT, N, hx, hby, hml, hZ, hown, hnm, hret, hlk, hn⟩ := H
  subst hp
  obtain ⟨T', X', e', st⟩ := instY X hx hZ hown w eT I (g := mkF m pc L (.ref a :: S)) rfl rfl (hb hby hd)
  exact oG.go st (k T' ⟨locs, X', e', N, hx, hby, hml, hZ, hown, hnm, hret, hlk, hn⟩)
theorem o_castY (H : oH p l e R s m args below meth c bc ml y rt Z n0 T h cells slots) {i : Nat} {a : Addr} {K : String} (w : (Jvm.Cond.classLink y.cls i K).before a0 Z = true) (I : Ins Z h a K true) (hd : decode bc pc = .ok (.checkcast i, 3)) (hp : pc + 3 = pc') (k : ∀ (T' : State), oH p l e R s m args below meth c bc ml y rt Z n0 T' h cells slots → oG p e below s n0 kc ks Q (T'.setTop (mkF m pc' L (.ref a :: S)))) : oG p e below s n0 kc ks Q (T.setTop (mkF m pc L (.ref a :: S))) := by
  obtain ⟨locs, X, eT, N, hx, hby, hml, hZ, hown, hnm, hret, hlk, hn⟩ := H
  subst hp
  obtain ⟨T', X', e', st⟩ := castY X hx hZ hown w eT I (g := mkF m pc L (.ref a :: S)) rfl rfl (hb hby hd)
  exact oG.go st (k T' ⟨locs, X', e', N, hx, hby, hml, hZ, hown, hnm, hret, hlk, hn⟩)
theorem o_instNo (H : oH p l e R s m args below meth c bc ml y rt Z n0 T h cells slots) {i : Nat} {a : Addr} {C K : String} (w : (Jvm.Cond.classLink y.cls i K).before a0 Z = true) (E : Exa Z h a C) (F : ∃ c t, Z.vm.findClass C = some c ∧ Z.vm.findClass K = some t ∧ Z.vm.assignable c t = false) (hd : decode bc pc = .ok (.instanceof i, 3)) (hp : pc + 3 = pc') (k : ∀ (T' : State), oH p l e R s m args below meth c bc ml y rt Z n0 T' h cells slots → oG p e below s n0 kc ks Q (T'.setTop (mkF m pc' L (.int 0 :: S)))) : oG p e below s n0 kc ks Q (T.setTop (mkF m pc L (.ref a :: S))) := by
  obtain ⟨locs, X, eT, N, hx, hby, hml, hZ, hown, hnm, hret, hlk, hn⟩ := H
  subst hp
  obtain ⟨T', X', e', st⟩ := instNo X hx hZ hown w eT E F (g := mkF m pc L (.ref a :: S)) rfl rfl (hb hby hd)
  exact oG.go st (k T' ⟨locs, X', e', N, hx, hby, hml, hZ, hown, hnm, hret, hlk, hn⟩)
theorem o_instNull (H : oH p l e R s m args below meth c bc ml y rt Z n0 T h cells slots) {i : Nat} (hd : decode bc pc = .ok (.instanceof i, 3)) (hp : pc + 3 = pc') (k : oG p e below s n0 kc ks Q (T.setTop (mkF m pc' L (.int 0 :: S)))) : oG p e below s n0 kc ks Q (T.setTop (mkF m pc L (.null :: S))) := by
  obtain ⟨locs, X, eT, N, hx, hby, hml, hZ, hown, hnm, hret, hlk, hn⟩ := H
  subst hp
  exact oG.go (X.instanceofNull hx (g := mkF m pc L (.null :: S)) rfl rfl (hb hby hd)) k
theorem o_aaloadC (H : oH p l e R s m args below meth c bc ml y rt Z n0 T h cells slots) {a : Addr} {j : Int32} {cl : Cell} {ty : FieldType} (v : Value) (A : Arr Z h a cl ty) (hty : ty.isReference = true) (hin : ¬ (j < 0 ∨ cl.slots.size ≤ j.toNatClampNeg)) (hv : cl.slots[j.toNatClampNeg]? = some v) (hd : decode bc pc = .ok (.aaload, 1)) (hp : pc + 1 = pc') (k : oG p e below s n0 kc ks Q (T.setTop (mkF m pc' L (v :: S)))) : oG p e below s n0 kc ks Q (T.setTop (mkF m pc L (.int j :: .ref a :: S))) := by
  obtain ⟨locs, X, eT, N, hx, hby, hml, hZ, hown, hnm, hret, hlk, hn⟩ := H
  subst hp
  exact oG.go (fun t hr => X.aaload hx (j := j) (v := v) (by rw [eT]; exact A.1) (State.isArrayOf_alike hZ.alike A.2.1) hty A.2.2 hin hv (g := mkF m pc L (.int j :: .ref a :: S)) rfl rfl (hb hby hd) t hr) k
theorem o_kext {h' : Heap} (K : Keep h h' []) : Ext h h' := ⟨K.1, fun a c q => K.2.1 a c q nin0⟩
theorem o_etrans {h' h'' : Heap} (E : Ext h h') (E' : Ext h' h'') : Ext h h'' := ⟨Nat.le_trans E.1 E'.1, fun a c q => E'.2 a c (E.2 a c q)⟩
/-- C's chain of superclasses, ended by O, meets no class that can be made of the name K -/
theorem o_noSub {C K : String} {n : Nat} (wk : (Jvm.Cond.instantiable K n).before a0 Z = true) (kd : ∃ c k, Z.vm.findClass C = some c ∧ Z.vm.classes[c]? = some k ∧ k.kind = .ordinary) (hn : C ≠ K) (nf : ∀ c t, Z.vm.findClass C = some c → Z.vm.findClass K = some t → ∀ fuel, Z.vm.isSubclassAux fuel c t = false) : ∃ c t, Z.vm.findClass C = some c ∧ Z.vm.findClass K = some t ∧ Z.vm.assignable c t = false := by
  obtain ⟨c, k, h1, h2, h3⟩ := kd
  obtain ⟨t, kt, g1, g2, g3, g4, -⟩ := Cond.instantiable_spec wk
  have ne := ids_ne h1 g1 hn
  have g5 : kt.isInterface = false := (Bool.or_eq_false_iff.mp g4).1
  refine ⟨c, t, h1, g1, ?_⟩
  show Z.vm.assignableAux (255 + 1) c t = false
  simp [Vm.assignableAux, ne, h2, g2, h3, g3, g5, Vm.isSubclass, nf c t h1 g1]
theorem o_subRoot {O K : String} {n : Nat} (w : (Jvm.Cond.noSuperclass O).before a0 Z = true) (wk : (Jvm.Cond.instantiable K n).before a0 Z = true) (hn : O ≠ K) : NS Z O K := by
  obtain ⟨c, k, h1, h2, h3, -, -⟩ := Cond.noSuperclass_spec w
  obtain ⟨t, kt, g1, g2, g3, g4, -⟩ := Cond.instantiable_spec wk
  have ne := ids_ne h1 g1 hn
  refine ⟨c, t, h1, g1, fun fuel => ?_⟩
  cases fuel with
  | zero => rfl
  | succ f => simp [Vm.isSubclassAux, ne, h2, h3]
theorem o_ns {C S' K : String} {n : Nat} (w : (Jvm.Cond.superclass C S').before a0 Z = true) (wk : (Jvm.Cond.instantiable K n).before a0 Z = true) (N : NS Z C K) (hn : C ≠ K) : ∃ c t, Z.vm.findClass C = some c ∧ Z.vm.findClass K = some t ∧ Z.vm.assignable c t = false := by
  obtain ⟨c, h0⟩ := found_sup w
  obtain ⟨p, k, kp, h1, h2, h3, h4, h5, -, h7⟩ := Cond.superclass_spec h0 w
  refine o_noSub wk ⟨c, k, h0, h2, h5⟩ hn fun c' t' q1 q2 => ?_
  obtain ⟨c1, t1, r1, r2, r3⟩ := N
  cases r1.symm.trans q1
  cases r2.symm.trans q2
  exact r3
/-- an array, by the list of what it holds -/
def oA (ty : FieldType) (Z : State) (h : Heap) (a : Addr) (vs : List Value) : Prop := vs.length < 2 ^ 31 ∧ ∃ cl : Cell, Arr Z h a cl ty ∧ cl.slots = vs.toArray
theorem oA.ext {ty : FieldType} {h' : Heap} {a : Addr} {vs : List Value} (A : oA ty Z h a vs) (E : Ext h h') : oA ty Z h' a vs := by
  obtain ⟨q, cl, A, r⟩ := A; exact ⟨q, cl, A.ext E, r⟩
theorem oA.other {ty : FieldType} {h' : Heap} {a b : Addr} {sl : Nat} {v : Value} {vs : List Value} (A : oA ty Z h b vs) (W : Wr h h' a sl v) (ne : b ≠ a) : oA ty Z h' b vs := by
  obtain ⟨q, cl, A, r⟩ := A; exact ⟨q, cl, A.other W ne, r⟩
theorem oA.keep {ty : FieldType} {h' : Heap} {a : Addr} {ws : List Addr} {vs : List Value} (A : oA ty Z h a vs) (K : Keep h h' ws) (ne : a ∉ ws) : oA ty Z h' a vs := by
  obtain ⟨q, cl, A, r⟩ := A; exact ⟨q, cl, ⟨K.2.1 a cl A.1 ne, A.2⟩, r⟩
theorem oA.lt {ty : FieldType} {a : Addr} {vs : List Value} (A : oA ty Z h a vs) : a < h.size := by
  obtain ⟨q, cl, A, r⟩ := A; exact A.lt
theorem oA.same {ty : FieldType} {h' : Heap} {a : Addr} {j : Nat} {v : Value} {vs : List Value} (A : oA ty Z h a vs) (W : Wr h h' a j v) : oA ty Z h' a (vs.set j v) := by
  obtain ⟨q, cl, A, r⟩ := A
  refine ⟨by rw [List.length_set]; exact q, _, A.same W, ?_⟩
  show cl.slots.setIfInBounds j v = _
  rw [r, List.setIfInBounds_toArray]
theorem o_inb {cl : Cell} {vs : List Value} {j : Int32} {i : Nat} (r : cl.slots = vs.toArray) (h0 : j.toInt = (i : Int)) (h1 : i < vs.length) : ¬ (j < 0 ∨ cl.slots.size ≤ j.toNatClampNeg) := by
  have e0 : (0 : Int32).toInt = 0 := rfl
  have e1 : cl.slots.size = vs.length := by rw [r]; simp
  rw [Int32.lt_iff_toInt_lt, e0, e1]
  simp only [Int32.toNatClampNeg]; omega
theorem o_nat {j : Int32} {i : Nat} (h0 : j.toInt = (i : Int)) : j.toNatClampNeg = i := by
  simp only [Int32.toNatClampNeg]; omega
theorem o_elt {cl : Cell} {vs : List Value} {j : Int32} {i : Nat} {v : Value} (r : cl.slots = vs.toArray) (h0 : j.toInt = (i : Int)) (hv : vs[i]? = some v) : cl.slots[j.toNatClampNeg]? = some v := by
  rw [r, o_nat h0]; simpa using hv
theorem o_lt_of {vs : List Value} {i : Nat} {v : Value} (hv : vs[i]? = some v) : i < vs.length := (List.getElem?_eq_some_iff.mp hv).1
theorem o_newarr (H : oH p l e R s m args below meth c bc ml y rt Z n0 T h cells slots) {aty : ArrayType} {z : Int32} (cap n : Nat) (w : (Jvm.Cond.arrayClass (newarray.typeOf aty)).before a0 Z = true) (hz : z.toInt = (n : Int)) (hcap : n ≤ cap) (hb8 : cap * 8 ≤ 536870912) (hd : decode bc pc = .ok (.newarray aty, 2)) (hp : pc + 2 = pc') (hc : cells + 1 ≤ R.cells) (hl : slots + cap ≤ R.slots)
    (k : ∀ (T' : State) (h' : Heap) (a : Addr), a = h.size → oH p l e R s m args below meth c bc ml y rt Z n0 T' h' (cells + 1) (slots + cap) → Ext h h' → oA (newarray.typeOf aty) Z h' a (List.replicate n (defaultValue (newarray.typeOf aty))) → oG p e below s n0 kc ks Q (T'.setTop (mkF m pc' L (.ref a :: S)))) : oG p e below s n0 kc ks Q (T.setTop (mkF m pc L (.int z :: S))) := by
  obtain ⟨locs, X, eT, N, hx, hby, hml, hZ, hown, hnm, hret, hlk, hn⟩ := H
  subst hp
  have e0 : (0 : Int32).toInt = 0 := rfl
  obtain ⟨T', h', kk, X', e', E, A, st⟩ := newP X hx hZ w eT (g := mkF m pc L (.int z :: S)) rfl (hb hby hd) rfl (by rw [Int32.lt_iff_toInt_lt, e0]; omega) (cap := cap) (by simp only [Int32.toNatClampNeg]; omega) hb8 hc hl
  refine oG.go st (k T' h' _ rfl ⟨locs, X', e', N, hx, hby, hml, hZ, hown, hnm, hret, hlk, hn⟩ E ⟨?_, _, A, ?_⟩)
  · have := Int32.toInt_lt z
    rw [List.length_replicate]; omega
  · show Array.replicate z.toNatClampNeg _ = _
    rw [o_nat hz, ← List.toArray_replicate]
theorem o_iaload (H : oH p l e R s m args below meth c bc ml y rt Z n0 T h cells slots) {a : Addr} {j : Int32} {vs : List Value} (i : Nat) (v : Value) (A : oA .int Z h a vs) (h0 : j.toInt = (i : Int)) (hv : vs[i]? = some v) (hd : decode bc pc = .ok (.iaload, 1)) (hp : pc + 1 = pc') (k : oG p e below s n0 kc ks Q (T.setTop (mkF m pc' L (v :: S)))) : oG p e below s n0 kc ks Q (T.setTop (mkF m pc L (.int j :: .ref a :: S))) := by
  obtain ⟨locs, X, eT, N, hx, hby, hml, hZ, hown, hnm, hret, hlk, hn⟩ := H
  subst hp
  obtain ⟨-, cl, A, r⟩ := A
  exact oG.go (fun t hr => X.iaload hx (j := j) (v := v) (by rw [eT]; exact A.1) (State.isArrayOf_alike hZ.alike A.2.1) A.2.2 (o_inb r h0 (o_lt_of hv)) (o_elt r h0 hv) (g := mkF m pc L (.int j :: .ref a :: S)) rfl rfl (hb hby hd) t hr) k
theorem o_caload (H : oH p l e R s m args below meth c bc ml y rt Z n0 T h cells slots) {a : Addr} {j : Int32} {vs : List Value} (i : Nat) (v : Value) (A : oA .char Z h a vs) (h0 : j.toInt = (i : Int)) (hv : vs[i]? = some v) (hd : decode bc pc = .ok (.caload, 1)) (hp : pc + 1 = pc') (k : oG p e below s n0 kc ks Q (T.setTop (mkF m pc' L (v :: S)))) : oG p e below s n0 kc ks Q (T.setTop (mkF m pc L (.int j :: .ref a :: S))) := by
  obtain ⟨locs, X, eT, N, hx, hby, hml, hZ, hown, hnm, hret, hlk, hn⟩ := H
  subst hp
  obtain ⟨-, cl, A, r⟩ := A
  exact oG.go (fun t hr => X.caload hx (j := j) (v := v) (by rw [eT]; exact A.1) (State.isArrayOf_alike hZ.alike A.2.1) A.2.2 (o_inb r h0 (o_lt_of hv)) (o_elt r h0 hv) (g := mkF m pc L (.int j :: .ref a :: S)) rfl rfl (hb hby hd) t hr) k
theorem o_baload (H : oH p l e R s m args below meth c bc ml y rt Z n0 T h cells slots) {a : Addr} {j : Int32} {vs : List Value} (i : Nat) (v : Value) (A : oA .byte Z h a vs) (h0 : j.toInt = (i : Int)) (hv : vs[i]? = some v) (hd : decode bc pc = .ok (.baload, 1)) (hp : pc + 1 = pc') (k : oG p e below s n0 kc ks Q (T.setTop (mkF m pc' L (v :: S)))) : oG p e below s n0 kc ks Q (T.setTop (mkF m pc L (.int j :: .ref a :: S))) := by
  obtain ⟨locs, X, eT, N, hx, hby, hml, hZ, hown, hnm, hret, hlk, hn⟩ := H
  subst hp
  obtain ⟨-, cl, A, r⟩ := A
  exact oG.go (fun t hr => X.baloadBytes hx (j := j) (v := v) (by rw [eT]; exact A.1) (State.isArrayOf_alike hZ.alike A.2.1) A.2.2 (o_inb r h0 (o_lt_of hv)) (o_elt r h0 hv) (g := mkF m pc L (.int j :: .ref a :: S)) rfl rfl (hb hby hd) t hr) k
theorem o_laload (H : oH p l e R s m args below meth c bc ml y rt Z n0 T h cells slots) {a : Addr} {j : Int32} {vs : List Value} (i : Nat) (v : Value) (A : oA .long Z h a vs) (h0 : j.toInt = (i : Int)) (hv : vs[i]? = some v) (hd : decode bc pc = .ok (.laload, 1)) (hp : pc + 1 = pc') (k : oG p e below s n0 kc ks Q (T.setTop (mkF m pc' L (v :: S)))) : oG p e below s n0 kc ks Q (T.setTop (mkF m pc L (.int j :: .ref a :: S))) := by
  obtain ⟨locs, X, eT, N, hx, hby, hml, hZ, hown, hnm, hret, hlk, hn⟩ := H
  subst hp
  obtain ⟨-, cl, A, r⟩ := A
  exact oG.go (fun t hr => X.laload hx (j := j) (v := v) (by rw [eT]; exact A.1) (State.isArrayOf_alike hZ.alike A.2.1) A.2.2 (o_inb r h0 (o_lt_of hv)) (o_elt r h0 hv) (g := mkF m pc L (.int j :: .ref a :: S)) rfl rfl (hb hby hd) t hr) k
theorem o_arraylength (H : oH p l e R s m args below meth c bc ml y rt Z n0 T h cells slots) {a : Addr} {ty : FieldType} {vs : List Value} (z : Int32) (A : oA ty Z h a vs) (hz : vs.length.toInt32 = z) (hd : decode bc pc = .ok (.arraylength, 1)) (hp : pc + 1 = pc') (k : oG p e below s n0 kc ks Q (T.setTop (mkF m pc' L (.int z :: S)))) : oG p e below s n0 kc ks Q (T.setTop (mkF m pc L (.ref a :: S))) := by
  obtain ⟨locs, X, eT, N, hx, hby, hml, hZ, hown, hnm, hret, hlk, hn⟩ := H
  subst hp
  obtain ⟨-, cl, A, r⟩ := A
  have e1 : cl.slots.size.toInt32 = z := by rw [← hz, r]; simp
  exact oG.go (fun t hr => X.arraylength hx (by rw [eT]; exact A.1) (State.isArrayOf_alike hZ.alike A.2.1) (g := mkF m pc L (.ref a :: S)) rfl rfl (hb hby hd) t (by rw [e1]; exact hr)) k
theorem o_iastore (H : oH p l e R s m args below meth c bc ml y rt Z n0 T h cells slots) {a : Addr} {j : Int32} {z : Int32} {vs : List Value} (i : Nat) (A : oA .int Z h a vs) (h0 : j.toInt = (i : Int)) (h1 : i < vs.length) (ha : n0 ≤ a) (hd : decode bc pc = .ok (.iastore, 1)) (hp : pc + 1 = pc')
    (k : ∀ (T' : State) (h' : Heap), oH p l e R s m args below meth c bc ml y rt Z n0 T' h' cells slots → Wr h h' a i (.int z) → oA .int Z h' a (vs.set i (.int z)) → oG p e below s n0 kc ks Q (T'.setTop (mkF m pc' L S))) : oG p e below s n0 kc ks Q (T.setTop (mkF m pc L (.int z :: .int j :: .ref a :: S))) := by
  obtain ⟨locs, X, eT, N, hx, hby, hml, hZ, hown, hnm, hret, hlk, hn⟩ := H
  subst hp
  have A' := A
  obtain ⟨-, cl, A, r⟩ := A
  obtain ⟨T', h', X', e', W, st⟩ := stI X hx hZ eT A (j := j) (o_inb r h0 h1) (g := mkF m pc L (.int z :: .int j :: .ref a :: S)) rfl rfl (hb hby hd)
  have en := o_nat h0
  have W2 : Wr h h' a i _ := en ▸ W
  exact oG.go st (k T' h' ⟨_, X', e', Fr.snoc X' N ha, hx, hby, hml, hZ, hown, hnm, hret, hlk, hn⟩ W2 (A'.same W2))
theorem o_castore (H : oH p l e R s m args below meth c bc ml y rt Z n0 T h cells slots) {a : Addr} {j : Int32} {z : Int32} {vs : List Value} (i : Nat) (A : oA .char Z h a vs) (h0 : j.toInt = (i : Int)) (h1 : i < vs.length) (ha : n0 ≤ a) (hd : decode bc pc = .ok (.castore, 1)) (hp : pc + 1 = pc')
    (k : ∀ (T' : State) (h' : Heap), oH p l e R s m args below meth c bc ml y rt Z n0 T' h' cells slots → Wr h h' a i (.int (nar .char z)) → oA .char Z h' a (vs.set i (.int (nar .char z))) → oG p e below s n0 kc ks Q (T'.setTop (mkF m pc' L S))) : oG p e below s n0 kc ks Q (T.setTop (mkF m pc L (.int z :: .int j :: .ref a :: S))) := by
  obtain ⟨locs, X, eT, N, hx, hby, hml, hZ, hown, hnm, hret, hlk, hn⟩ := H
  subst hp
  have A' := A
  obtain ⟨-, cl, A, r⟩ := A
  obtain ⟨T', h', X', e', W, st⟩ := stC X hx hZ eT A (j := j) (o_inb r h0 h1) (g := mkF m pc L (.int z :: .int j :: .ref a :: S)) rfl rfl (hb hby hd)
  have en := o_nat h0
  have W2 : Wr h h' a i _ := en ▸ W
  exact oG.go st (k T' h' ⟨_, X', e', Fr.snoc X' N ha, hx, hby, hml, hZ, hown, hnm, hret, hlk, hn⟩ W2 (A'.same W2))
theorem o_bastore (H : oH p l e R s m args below meth c bc ml y rt Z n0 T h cells slots) {a : Addr} {j : Int32} {z : Int32} {vs : List Value} (i : Nat) (A : oA .byte Z h a vs) (h0 : j.toInt = (i : Int)) (h1 : i < vs.length) (ha : n0 ≤ a) (hd : decode bc pc = .ok (.bastore, 1)) (hp : pc + 1 = pc')
    (k : ∀ (T' : State) (h' : Heap), oH p l e R s m args below meth c bc ml y rt Z n0 T' h' cells slots → Wr h h' a i (.int (nar .byte z)) → oA .byte Z h' a (vs.set i (.int (nar .byte z))) → oG p e below s n0 kc ks Q (T'.setTop (mkF m pc' L S))) : oG p e below s n0 kc ks Q (T.setTop (mkF m pc L (.int z :: .int j :: .ref a :: S))) := by
  obtain ⟨locs, X, eT, N, hx, hby, hml, hZ, hown, hnm, hret, hlk, hn⟩ := H
  subst hp
  have A' := A
  obtain ⟨-, cl, A, r⟩ := A
  obtain ⟨T', h', X', e', W, st⟩ := stB X hx hZ eT A (j := j) (o_inb r h0 h1) (g := mkF m pc L (.int z :: .int j :: .ref a :: S)) rfl rfl (hb hby hd)
  have en := o_nat h0
  have W2 : Wr h h' a i _ := en ▸ W
  exact oG.go st (k T' h' ⟨_, X', e', Fr.snoc X' N ha, hx, hby, hml, hZ, hown, hnm, hret, hlk, hn⟩ W2 (A'.same W2))
theorem o_lastore (H : oH p l e R s m args below meth c bc ml y rt Z n0 T h cells slots) {a : Addr} {j : Int32} {z : Int64} {vs : List Value} (i : Nat) (A : oA .long Z h a vs) (h0 : j.toInt = (i : Int)) (h1 : i < vs.length) (ha : n0 ≤ a) (hd : decode bc pc = .ok (.lastore, 1)) (hp : pc + 1 = pc')
    (k : ∀ (T' : State) (h' : Heap), oH p l e R s m args below meth c bc ml y rt Z n0 T' h' cells slots → Wr h h' a i (.long z) → oA .long Z h' a (vs.set i (.long z)) → oG p e below s n0 kc ks Q (T'.setTop (mkF m pc' L S))) : oG p e below s n0 kc ks Q (T.setTop (mkF m pc L (.long z :: .int j :: .ref a :: S))) := by
  obtain ⟨locs, X, eT, N, hx, hby, hml, hZ, hown, hnm, hret, hlk, hn⟩ := H
  subst hp
  have A' := A
  obtain ⟨-, cl, A, r⟩ := A
  obtain ⟨T', h', X', e', W, st⟩ := stJ X hx hZ eT A (j := j) (o_inb r h0 h1) (g := mkF m pc L (.long z :: .int j :: .ref a :: S)) rfl rfl (hb hby hd)
  have en := o_nat h0
  have W2 : Wr h h' a i _ := en ▸ W
  exact oG.go st (k T' h' ⟨_, X', e', Fr.snoc X' N ha, hx, hby, hml, hZ, hown, hnm, hret, hlk, hn⟩ W2 (A'.same W2))
theorem o_static (H : oH p l e R s m args below meth c bc ml y rt Z n0 T h cells slots) {yc : MethodName} {bcc : ByteArray} {maxL i : Nat} {rtc : Option FieldType} {rm : Room} {Q' : Option Value → Heap → Prop} {St : List Value} (argsL : List Value) (S : List Value)
    (con : oC l Z n0 yc bcc maxL rtc rm rm.cells rm.slots argsL.toArray h Q') (wl : (Jvm.Cond.methodLink y.cls i yc).before a0 Z = true) (ws : (Jvm.Cond.static yc).before a0 Z = true) (wz : (Jvm.Cond.initialized yc.cls).before a0 Z = true) (wc : (Jvm.Cond.code yc bcc maxL rtc).before a0 Z = true) (hy : yc.cls ≠ "java/lang/invoke/MethodHandle" ∧ yc.cls ≠ "java/lang/invoke/VarHandle") (hlen : ∀ sig, parseMethodDescriptor yc.desc = some sig → argsL.length = sig.parameters.length) (hst : St = argsL.reverse ++ S) (hsz : L.size = ml) (hf : rm.frames + 1 ≤ R.frames) (hlo : (S.map fun v => v.category).sum + (maxL + 11) + rm.locals ≤ R.locals) (hc : cells + rm.cells ≤ R.cells) (hs : slots + rm.slots ≤ R.slots)
    (hd : decode bc pc = .ok (.invokestatic i, 3)) (hp : pc + 3 = pc') (k : ∀ (T' : State) (v : Option Value) (h' : Heap), oH p l e R s m args below meth c bc ml y rt Z n0 T' h' (cells + rm.cells) (slots + rm.slots) → Q' v h' → oG p e below s n0 kc ks Q (T'.setTop (mkF m pc' L (v.toList ++ S)))) : oG p e below s n0 kc ks Q (T.setTop (mkF m pc L St)) := by
  obtain ⟨locs, X, eT, N, hx, hby, hml, hZ, hown, hnm, hret, hlk, hn⟩ := H
  subst hp
  subst hst
  obtain ⟨v, _, ⟨T', L1, k1, n1⟩, -, X', ⟨Lc, hQ, l', y', z'⟩, st⟩ := Jvm.LawKit.callS X hx (y := yc) hown (mvT hZ wl) (mvT hZ ws) (mvT hZ wz) (mvT hZ wc) hy (backOf (W := (S.map fun v => v.category).sum) (Q := fun v h L => Q' v h ∧ Fr n0 L) (con []) hZ wc wz hf hlo) (g := mkF m pc L (argsL.reverse ++ S)) rfl (by rw [hml]; exact hsz) (argsL := argsL) (rest := S) hlen rfl (by show 2 * 0 + _ ≤ _; omega) (hb hby hd) (fun _ _ => ⟨rfl, eT, hc, hs⟩)
  dsimp only [Pt.U, Pt.locs, Pt.cells, Pt.slots] at X' l' y' z' st hQ
  subst l' y' z'
  exact oG.go (st) (k _ _ _ ⟨_, X', rfl, Fr.app N hQ.2, hx, hby, hml, hZ, hown, hnm, hret, hlk, hn⟩ hQ.1)
theorem o_special (H : oH p l e R s m args below meth c bc ml y rt Z n0 T h cells slots) {yc : MethodName} {bcc : ByteArray} {maxL i : Nat} {rm : Room} {a : Addr} {Q' : Option Value → Heap → Prop} {St : List Value} (argsL : List Value) (S : List Value)
    (con : oC l Z n0 yc bcc maxL none rm rm.cells rm.slots (.ref a :: argsL).toArray h Q') (hy1 : yc.name = "<init>") (wl : (Jvm.Cond.methodLink y.cls i yc).before a0 Z = true) (ws : (Jvm.Cond.instanceMethod yc).before a0 Z = true) (wz : (Jvm.Cond.initialized yc.cls).before a0 Z = true) (wc : (Jvm.Cond.code yc bcc maxL none).before a0 Z = true) (hy : yc.cls ≠ "java/lang/invoke/MethodHandle" ∧ yc.cls ≠ "java/lang/invoke/VarHandle") (hlen : ∀ sig, parseMethodDescriptor yc.desc = some sig → argsL.length = sig.parameters.length) (hst : St = argsL.reverse ++ .ref a :: S) (hsz : L.size = ml) (hf : rm.frames + 1 ≤ R.frames) (hlo : (S.map fun v => v.category).sum + (maxL + 11) + rm.locals ≤ R.locals) (hc : cells + rm.cells ≤ R.cells) (hs : slots + rm.slots ≤ R.slots)
    (hd : decode bc pc = .ok (.invokespecial i, 3)) (hp : pc + 3 = pc') (k : ∀ (T' : State) (v : Option Value) (h' : Heap), oH p l e R s m args below meth c bc ml y rt Z n0 T' h' (cells + rm.cells) (slots + rm.slots) → Q' v h' → oG p e below s n0 kc ks Q (T'.setTop (mkF m pc' L (v.toList ++ S)))) : oG p e below s n0 kc ks Q (T.setTop (mkF m pc L St)) := by
  obtain ⟨locs, X, eT, N, hx, hby, hml, hZ, hown, hnm, hret, hlk, hn⟩ := H
  subst hp
  subst hst
  obtain ⟨v, _, ⟨T', L1, k1, n1⟩, -, X', ⟨Lc, hQ, l', y', z'⟩, st⟩ := X.specialBack hx (y := yc) hy1 hown (mvT hZ wl) (mvT hZ ws) (mvT hZ wc) hy (backOf (W := (S.map fun v => v.category).sum) (Q := fun v h L => Q' v h ∧ Fr n0 L) (con []) hZ wc wz hf hlo) (g := mkF m pc L (argsL.reverse ++ .ref a :: S)) rfl (by rw [hml]; exact hsz) (Steps.refl _) (a := a) (argsL := argsL) (rest := S) hlen rfl (by show 2 * 0 + _ ≤ _; omega) (hb hby hd) (fun _ _ => ⟨rfl, eT, hc, hs⟩)
  dsimp only [Pt.U, Pt.locs, Pt.cells, Pt.slots] at X' l' y' z' st hQ
  subst l' y' z'
  exact oG.go (fun _ hr => st.trans hr) (k _ _ _ ⟨_, X', rfl, Fr.app N hQ.2, hx, hby, hml, hZ, hown, hnm, hret, hlk, hn⟩ hQ.1)
theorem o_virtual (H : oH p l e R s m args below meth c bc ml y rt Z n0 T h cells slots) {yc zc : MethodName} {K : String} {bcc : ByteArray} {maxL i : Nat} {rtc : Option FieldType} {rm : Room} {a : Addr} {Q' : Option Value → Heap → Prop} {St : List Value} (argsL : List Value) (S : List Value)
    (con : oC l Z n0 zc bcc maxL rtc rm rm.cells rm.slots (.ref a :: argsL).toArray h Q') (E : Exa Z h a K) (wl : (Jvm.Cond.methodLink y.cls i yc).before a0 Z = true) (wd : (Jvm.Cond.declares yc).before a0 Z = true) (hnf : ∀ {s' : State}, Z.Warmed39 s'.vm → NotFace s' yc) (wsel : (Jvm.Cond.selects K yc zc).before a0 Z = true) (ws : (Jvm.Cond.instanceMethod zc).before a0 Z = true) (wz : (Jvm.Cond.initialized zc.cls).before a0 Z = true) (wc : (Jvm.Cond.code zc bcc maxL rtc).before a0 Z = true) (hy : yc.cls ≠ "java/lang/invoke/MethodHandle" ∧ yc.cls ≠ "java/lang/invoke/VarHandle") (hlen : ∀ sig, parseMethodDescriptor yc.desc = some sig → argsL.length = sig.parameters.length) (hst : St = argsL.reverse ++ .ref a :: S) (hsz : L.size = ml) (hf : rm.frames + 1 ≤ R.frames) (hlo : (S.map fun v => v.category).sum + (maxL + 11) + rm.locals ≤ R.locals) (hc : cells + rm.cells ≤ R.cells) (hs : slots + rm.slots ≤ R.slots)
    (hd : decode bc pc = .ok (.invokevirtual i, 3)) (hp : pc + 3 = pc') (k : ∀ (T' : State) (v : Option Value) (h' : Heap), oH p l e R s m args below meth c bc ml y rt Z n0 T' h' (cells + rm.cells) (slots + rm.slots) → Q' v h' → oG p e below s n0 kc ks Q (T'.setTop (mkF m pc' L (v.toList ++ S)))) : oG p e below s n0 kc ks Q (T.setTop (mkF m pc L St)) := by
  obtain ⟨locs, X, eT, N, hx, hby, hml, hZ, hown, hnm, hret, hlk, hn⟩ := H
  subst hp
  subst hst
  obtain ⟨cq, kq, qa, qb, qc⟩ := isOf hZ eT E
  obtain ⟨v, _, ⟨T', L1, k1, n1⟩, -, X', ⟨Lc, hQ, l', y', z'⟩, st⟩ := X.virtualBack hx (y := yc) (z := zc) hown (mvT hZ wl) (mvT hZ wd) (hnf hZ) (mvT hZ wsel) (mvT hZ ws) hy (backOf (W := (S.map fun v => v.category).sum) (Q := fun v h L => Q' v h ∧ Fr n0 L) (con []) hZ wc wz hf hlo) qa qc (g := mkF m pc L (argsL.reverse ++ .ref a :: S)) rfl (by rw [hml]; exact hsz) (Steps.refl _) (argsL := argsL) (rest := S) hlen rfl (by show 2 * 0 + _ ≤ _; omega) (hb hby hd) (fun _ _ => ⟨rfl, eT, hc, hs⟩)
  dsimp only [Pt.U, Pt.locs, Pt.cells, Pt.slots] at X' l' y' z' st hQ
  subst l' y' z'
  exact oG.go (fun _ hr => st.trans hr) (k _ _ _ ⟨_, X', rfl, Fr.app N hQ.2, hx, hby, hml, hZ, hown, hnm, hret, hlk, hn⟩ hQ.1)
theorem o_nf {yc : MethodName} {K : String} (w : (Jvm.Cond.selects K yc yc).before a0 Z = true) : ∀ {s' : State}, Z.Warmed39 s'.vm → NotFace s' yc := fun {s'} hZ => notFace_of_selects (args := #[]) (mvT hZ w)
theorem n_lt (x z : Int32) : x < z ↔ x.toInt < z.toInt := Int32.lt_iff_toInt_lt
theorem n_eq (x z : Int32) : x = z ↔ x.toInt = z.toInt := Int32.toInt_inj.symm
theorem n_ltJ (x z : Int64) : x < z ↔ x.toInt < z.toInt := Int64.lt_iff_toInt_lt
theorem n_eqJ (x z : Int64) : x = z ↔ x.toInt = z.toInt := Int64.toInt_inj.symm
theorem n_and (x z : Int32) (h : 0 ≤ z.toInt) : 0 ≤ (x &&& z).toInt ∧ (x &&& z).toInt ≤ z.toInt := by
  have q : (x &&& z).toBitVec.toNat = x.toBitVec.toNat &&& z.toBitVec.toNat := by show (x.toBitVec &&& z.toBitVec).toNat = _; rw [BitVec.toNat_and]
  have o : x.toBitVec.toNat &&& z.toBitVec.toNat ≤ z.toBitVec.toNat := Nat.and_le_right
  have lm := z.toBitVec.isLt
  change 0 ≤ z.toBitVec.toInt at h
  show 0 ≤ (x &&& z).toBitVec.toInt ∧ (x &&& z).toBitVec.toInt ≤ z.toBitVec.toInt
  rw [BitVec.toInt_eq_toNat_cond] at h
  simp only [BitVec.toInt_eq_toNat_cond, q]
  split at h <;> (repeat' split) <;> omega
theorem n_andJ (x z : Int64) (h : 0 ≤ z.toInt) : 0 ≤ (x &&& z).toInt ∧ (x &&& z).toInt ≤ z.toInt := by
  have q : (x &&& z).toBitVec.toNat = x.toBitVec.toNat &&& z.toBitVec.toNat := by show (x.toBitVec &&& z.toBitVec).toNat = _; rw [BitVec.toNat_and]
  have o : x.toBitVec.toNat &&& z.toBitVec.toNat ≤ z.toBitVec.toNat := Nat.and_le_right
  have lm := z.toBitVec.isLt
  change 0 ≤ z.toBitVec.toInt at h
  show 0 ≤ (x &&& z).toBitVec.toInt ∧ (x &&& z).toBitVec.toInt ≤ z.toBitVec.toInt
  rw [BitVec.toInt_eq_toNat_cond] at h
  simp only [BitVec.toInt_eq_toNat_cond, q]
  split at h <;> (repeat' split) <;> omega
theorem n_rem (x z : Int32) (d : Int) (hd : 0 < d) (hz : z.toInt = d) (hx : 0 ≤ x.toInt) : (x % z).toInt = x.toInt % d := by
  rw [Int32.toInt_mod, hz, Int.tmod_eq_emod_of_nonneg hx]
theorem n_nat (x : Int32) (n : Nat) (h0 : 0 ≤ x.toInt) (h1 : x.toInt < n) : ∃ i : Fin n, x = Int32.ofNat i.1 := by
  refine ⟨⟨x.toInt.toNat, by omega⟩, ?_⟩
  rw [n_eq]
  have := Int32.toInt_lt x
  have e : (Int32.ofNat x.toInt.toNat).toInt = x.toInt.toNat := Int32.toInt_ofNat_of_lt (by omega)
  show x.toInt = (Int32.ofNat x.toInt.toNat).toInt
  rw [e]; omega
end Own
theorem w0 {Z : State} {a0 : Array Value} (hw : ∀ d ∈ tables_1, d.before a0 Z = true) : (Jvm.Cond.constant "com/example/lachesis/lachesis/BerTagEqualsPinLaw" (7 : Nat) (2147483647 : Int32)).before a0 Z = true := hw _ (List.mem_of_getElem? (i := 0) rfl)
theorem w1 {Z : State} {a0 : Array Value} (hw : ∀ d ∈ tables_1, d.before a0 Z = true) : (Jvm.Cond.classLink "com/example/lachesis/lachesis/BerTagEqualsPinLaw" (8 : Nat) "com/example/lachesis/lachesis/BerTag").before a0 Z = true := hw _ (List.mem_of_getElem? (i := 1) rfl)
theorem w2 {Z : State} {a0 : Array Value} (hw : ∀ d ∈ tables_1, d.before a0 Z = true) : (Jvm.Cond.instantiable "com/example/lachesis/lachesis/BerTag" (2 : Nat)).before a0 Z = true := hw _ (List.mem_of_getElem? (i := 2) rfl)
theorem w3 {Z : State} {a0 : Array Value} (hw : ∀ d ∈ tables_1, d.before a0 Z = true) : (Jvm.Cond.initialized "com/example/lachesis/lachesis/BerTag").before a0 Z = true := hw _ (List.mem_of_getElem? (i := 3) rfl)
theorem w4 {Z : State} {a0 : Array Value} (hw : ∀ d ∈ tables_1, d.before a0 Z = true) : (Jvm.Cond.methodLink "com/example/lachesis/lachesis/BerTagEqualsPinLaw" (10 : Nat) ({ cls := "com/example/lachesis/lachesis/BerTag", name := "<init>", desc := "(II)V" } : Jvm.MethodName)).before a0 Z = true := hw _ (List.mem_of_getElem? (i := 4) rfl)
theorem w5 {Z : State} {a0 : Array Value} (hw : ∀ d ∈ tables_1, d.before a0 Z = true) : (Jvm.Cond.instanceMethod ({ cls := "com/example/lachesis/lachesis/BerTag", name := "<init>", desc := "(II)V" } : Jvm.MethodName)).before a0 Z = true := hw _ (List.mem_of_getElem? (i := 5) rfl)
theorem w6 {Z : State} {a0 : Array Value} (hw : ∀ d ∈ tables_1, d.before a0 Z = true) : (Jvm.Cond.code ({ cls := "com/example/lachesis/lachesis/BerTag", name := "<init>", desc := "(II)V" } : Jvm.MethodName) prog_21_method_1_code (3 : Nat) (Option.none : Option Jvm.ClassFile.FieldType)).before a0 Z = true := hw _ (List.mem_of_getElem? (i := 6) rfl)
theorem w7 {Z : State} {a0 : Array Value} (hw : ∀ d ∈ tables_1, d.before a0 Z = true) : (Jvm.Cond.methodLink "com/example/lachesis/lachesis/BerTag" (1 : Nat) ({ cls := "java/lang/Object", name := "<init>", desc := "()V" } : Jvm.MethodName)).before a0 Z = true := hw _ (List.mem_of_getElem? (i := 7) rfl)
theorem w8 {Z : State} {a0 : Array Value} (hw : ∀ d ∈ tables_1, d.before a0 Z = true) : (Jvm.Cond.instanceMethod ({ cls := "java/lang/Object", name := "<init>", desc := "()V" } : Jvm.MethodName)).before a0 Z = true := hw _ (List.mem_of_getElem? (i := 8) rfl)
theorem w9 {Z : State} {a0 : Array Value} (hw : ∀ d ∈ tables_1, d.before a0 Z = true) : (Jvm.Cond.code ({ cls := "java/lang/Object", name := "<init>", desc := "()V" } : Jvm.MethodName) object_method_1_code (1 : Nat) (Option.none : Option Jvm.ClassFile.FieldType)).before a0 Z = true := hw _ (List.mem_of_getElem? (i := 9) rfl)
theorem w10 {Z : State} {a0 : Array Value} (hw : ∀ d ∈ tables_1, d.before a0 Z = true) : (Jvm.Cond.fieldLink "com/example/lachesis/lachesis/BerTag" (18 : Nat) "com/example/lachesis/lachesis/BerTag" "tagClass" "I").before a0 Z = true := hw _ (List.mem_of_getElem? (i := 10) rfl)
theorem w11 {Z : State} {a0 : Array Value} (hw : ∀ d ∈ tables_1, d.before a0 Z = true) : (Jvm.Cond.laysFinal "com/example/lachesis/lachesis/BerTag" "com/example/lachesis/lachesis/BerTag" "tagClass" "I").before a0 Z = true := hw _ (List.mem_of_getElem? (i := 11) rfl)
theorem w12 {Z : State} {a0 : Array Value} (hw : ∀ d ∈ tables_1, d.before a0 Z = true) : (Jvm.Cond.fieldLink "com/example/lachesis/lachesis/BerTag" (22 : Nat) "com/example/lachesis/lachesis/BerTag" "number" "I").before a0 Z = true := hw _ (List.mem_of_getElem? (i := 12) rfl)
theorem w13 {Z : State} {a0 : Array Value} (hw : ∀ d ∈ tables_1, d.before a0 Z = true) : (Jvm.Cond.laysFinal "com/example/lachesis/lachesis/BerTag" "com/example/lachesis/lachesis/BerTag" "number" "I").before a0 Z = true := hw _ (List.mem_of_getElem? (i := 13) rfl)
theorem w14 {Z : State} {a0 : Array Value} (hw : ∀ d ∈ tables_1, d.before a0 Z = true) : (Jvm.Cond.methodLink "com/example/lachesis/lachesis/BerTagEqualsPinLaw" (13 : Nat) ({ cls := "com/example/lachesis/lachesis/BerTag", name := "equals", desc := "(Ljava/lang/Object;)Z" } : Jvm.MethodName)).before a0 Z = true := hw _ (List.mem_of_getElem? (i := 14) rfl)
theorem w15 {Z : State} {a0 : Array Value} (hw : ∀ d ∈ tables_1, d.before a0 Z = true) : (Jvm.Cond.declares ({ cls := "com/example/lachesis/lachesis/BerTag", name := "equals", desc := "(Ljava/lang/Object;)Z" } : Jvm.MethodName)).before a0 Z = true := hw _ (List.mem_of_getElem? (i := 15) rfl)
theorem w16 {Z : State} {a0 : Array Value} (hw : ∀ d ∈ tables_1, d.before a0 Z = true) : (Jvm.Cond.instanceMethod ({ cls := "com/example/lachesis/lachesis/BerTag", name := "equals", desc := "(Ljava/lang/Object;)Z" } : Jvm.MethodName)).before a0 Z = true := hw _ (List.mem_of_getElem? (i := 16) rfl)
theorem w17 {Z : State} {a0 : Array Value} (hw : ∀ d ∈ tables_1, d.before a0 Z = true) : (Jvm.Cond.selects "com/example/lachesis/lachesis/BerTag" ({ cls := "com/example/lachesis/lachesis/BerTag", name := "equals", desc := "(Ljava/lang/Object;)Z" } : Jvm.MethodName) ({ cls := "com/example/lachesis/lachesis/BerTag", name := "equals", desc := "(Ljava/lang/Object;)Z" } : Jvm.MethodName)).before a0 Z = true := hw _ (List.mem_of_getElem? (i := 17) rfl)
theorem w18 {Z : State} {a0 : Array Value} (hw : ∀ d ∈ tables_1, d.before a0 Z = true) : (Jvm.Cond.code ({ cls := "com/example/lachesis/lachesis/BerTag", name := "equals", desc := "(Ljava/lang/Object;)Z" } : Jvm.MethodName) prog_21_method_7_code (3 : Nat) (Option.some Jvm.ClassFile.FieldType.boolean)).before a0 Z = true := hw _ (List.mem_of_getElem? (i := 18) rfl)
theorem w19 {Z : State} {a0 : Array Value} (hw : ∀ d ∈ tables_1, d.before a0 Z = true) : (Jvm.Cond.classLink "com/example/lachesis/lachesis/BerTag" (7 : Nat) "com/example/lachesis/lachesis/BerTag").before a0 Z = true := hw _ (List.mem_of_getElem? (i := 19) rfl)
theorem w20 {Z : State} {a0 : Array Value} (hw : ∀ d ∈ tables_1, d.before a0 Z = true) : (Jvm.Cond.castable "com/example/lachesis/lachesis/BerTag" "com/example/lachesis/lachesis/BerTag").before a0 Z = true := hw _ (List.mem_of_getElem? (i := 20) rfl)
theorem w21 {Z : State} {a0 : Array Value} (hw : ∀ d ∈ tables_1, d.before a0 Z = true) : (Jvm.Cond.methodLink "com/example/lachesis/lachesis/BerTagEqualsPinLaw" (17 : Nat) ({ cls := "java/lang/Integer", name := "valueOf", desc := "(I)Ljava/lang/Integer;" } : Jvm.MethodName)).before a0 Z = true := hw _ (List.mem_of_getElem? (i := 21) rfl)
theorem w22 {Z : State} {a0 : Array Value} (hw : ∀ d ∈ tables_1, d.before a0 Z = true) : (Jvm.Cond.static ({ cls := "java/lang/Integer", name := "valueOf", desc := "(I)Ljava/lang/Integer;" } : Jvm.MethodName)).before a0 Z = true := hw _ (List.mem_of_getElem? (i := 22) rfl)
theorem w23 {Z : State} {a0 : Array Value} (hw : ∀ d ∈ tables_1, d.before a0 Z = true) : (Jvm.Cond.initialized "java/lang/Integer").before a0 Z = true := hw _ (List.mem_of_getElem? (i := 23) rfl)
theorem w24 {Z : State} {a0 : Array Value} (hw : ∀ d ∈ tables_1, d.before a0 Z = true) : (Jvm.Cond.code ({ cls := "java/lang/Integer", name := "valueOf", desc := "(I)Ljava/lang/Integer;" } : Jvm.MethodName) jdk_33_method_22_code (1 : Nat) (Option.some (Jvm.ClassFile.FieldType.object "java/lang/Integer"))).before a0 Z = true := hw _ (List.mem_of_getElem? (i := 24) rfl)
theorem w25 {Z : State} {a0 : Array Value} (hw : ∀ d ∈ tables_1, d.before a0 Z = true) : (Jvm.Cond.fieldLink "java/lang/Integer" (191 : Nat) "java/lang/Integer$IntegerCache" "high" "I").before a0 Z = true := hw _ (List.mem_of_getElem? (i := 25) rfl)
theorem w26 {Z : State} {a0 : Array Value} (hw : ∀ d ∈ tables_1, d.before a0 Z = true) : (Jvm.Cond.initialized "java/lang/Integer$IntegerCache").before a0 Z = true := hw _ (List.mem_of_getElem? (i := 26) rfl)
theorem w27 {Z : State} {a0 : Array Value} (hw : ∀ d ∈ tables_1, d.before a0 Z = true) : (Jvm.Cond.fieldLink "java/lang/Integer" (195 : Nat) "java/lang/Integer$IntegerCache" "cache" "[Ljava/lang/Integer;").before a0 Z = true := hw _ (List.mem_of_getElem? (i := 27) rfl)
theorem w28 {Z : State} {a0 : Array Value} (hw : ∀ d ∈ tables_1, d.before a0 Z = true) : (Jvm.Cond.superclass "java/lang/Integer" "java/lang/Number").before a0 Z = true := hw _ (List.mem_of_getElem? (i := 28) rfl)
theorem w29 {Z : State} {a0 : Array Value} (hw : ∀ d ∈ tables_1, d.before a0 Z = true) : (Jvm.Cond.superclass "java/lang/Number" "java/lang/Object").before a0 Z = true := hw _ (List.mem_of_getElem? (i := 29) rfl)
theorem w30 {Z : State} {a0 : Array Value} (hw : ∀ d ∈ tables_1, d.before a0 Z = true) : (Jvm.Cond.noSuperclass "java/lang/Object").before a0 Z = true := hw _ (List.mem_of_getElem? (i := 30) rfl)
theorem w31 {Z : State} {a0 : Array Value} (hw : ∀ d ∈ tables_1, d.before a0 Z = true) : (Jvm.Cond.classLink "java/lang/Integer" (1 : Nat) "java/lang/Integer").before a0 Z = true := hw _ (List.mem_of_getElem? (i := 31) rfl)
theorem w32 {Z : State} {a0 : Array Value} (hw : ∀ d ∈ tables_1, d.before a0 Z = true) : (Jvm.Cond.instantiable "java/lang/Integer" (1 : Nat)).before a0 Z = true := hw _ (List.mem_of_getElem? (i := 32) rfl)
theorem w33 {Z : State} {a0 : Array Value} (hw : ∀ d ∈ tables_1, d.before a0 Z = true) : (Jvm.Cond.methodLink "java/lang/Integer" (199 : Nat) ({ cls := "java/lang/Integer", name := "<init>", desc := "(I)V" } : Jvm.MethodName)).before a0 Z = true := hw _ (List.mem_of_getElem? (i := 33) rfl)
theorem w34 {Z : State} {a0 : Array Value} (hw : ∀ d ∈ tables_1, d.before a0 Z = true) : (Jvm.Cond.instanceMethod ({ cls := "java/lang/Integer", name := "<init>", desc := "(I)V" } : Jvm.MethodName)).before a0 Z = true := hw _ (List.mem_of_getElem? (i := 34) rfl)
theorem w35 {Z : State} {a0 : Array Value} (hw : ∀ d ∈ tables_1, d.before a0 Z = true) : (Jvm.Cond.castable "java/lang/Integer" "java/lang/Integer").before a0 Z = true := hw _ (List.mem_of_getElem? (i := 35) rfl)
theorem w36 {Z : State} {a0 : Array Value} (hw : ∀ d ∈ tables_1, d.before a0 Z = true) : (Jvm.Cond.code ({ cls := "java/lang/Integer", name := "<init>", desc := "(I)V" } : Jvm.MethodName) jdk_33_method_23_code (2 : Nat) (Option.none : Option Jvm.ClassFile.FieldType)).before a0 Z = true := hw _ (List.mem_of_getElem? (i := 36) rfl)
theorem w37 {Z : State} {a0 : Array Value} (hw : ∀ d ∈ tables_1, d.before a0 Z = true) : (Jvm.Cond.methodLink "java/lang/Integer" (202 : Nat) ({ cls := "java/lang/Number", name := "<init>", desc := "()V" } : Jvm.MethodName)).before a0 Z = true := hw _ (List.mem_of_getElem? (i := 37) rfl)
theorem w38 {Z : State} {a0 : Array Value} (hw : ∀ d ∈ tables_1, d.before a0 Z = true) : (Jvm.Cond.instanceMethod ({ cls := "java/lang/Number", name := "<init>", desc := "()V" } : Jvm.MethodName)).before a0 Z = true := hw _ (List.mem_of_getElem? (i := 38) rfl)
theorem w39 {Z : State} {a0 : Array Value} (hw : ∀ d ∈ tables_1, d.before a0 Z = true) : (Jvm.Cond.declares ({ cls := "java/lang/Number", name := "<init>", desc := "()V" } : Jvm.MethodName)).before a0 Z = true := hw _ (List.mem_of_getElem? (i := 39) rfl)
theorem w40 {Z : State} {a0 : Array Value} (hw : ∀ d ∈ tables_1, d.before a0 Z = true) : (Jvm.Cond.castable "java/lang/Integer" "java/lang/Number").before a0 Z = true := hw _ (List.mem_of_getElem? (i := 40) rfl)
theorem w41 {Z : State} {a0 : Array Value} (hw : ∀ d ∈ tables_1, d.before a0 Z = true) : (Jvm.Cond.initialized "java/lang/Number").before a0 Z = true := hw _ (List.mem_of_getElem? (i := 41) rfl)
theorem w42 {Z : State} {a0 : Array Value} (hw : ∀ d ∈ tables_1, d.before a0 Z = true) : (Jvm.Cond.code ({ cls := "java/lang/Number", name := "<init>", desc := "()V" } : Jvm.MethodName) jdk_18_method_1_code (1 : Nat) (Option.none : Option Jvm.ClassFile.FieldType)).before a0 Z = true := hw _ (List.mem_of_getElem? (i := 42) rfl)
theorem w43 {Z : State} {a0 : Array Value} (hw : ∀ d ∈ tables_1, d.before a0 Z = true) : (Jvm.Cond.methodLink "java/lang/Number" (1 : Nat) ({ cls := "java/lang/Object", name := "<init>", desc := "()V" } : Jvm.MethodName)).before a0 Z = true := hw _ (List.mem_of_getElem? (i := 43) rfl)
theorem w44 {Z : State} {a0 : Array Value} (hw : ∀ d ∈ tables_1, d.before a0 Z = true) : (Jvm.Cond.fieldLink "java/lang/Integer" (205 : Nat) "java/lang/Integer" "value" "I").before a0 Z = true := hw _ (List.mem_of_getElem? (i := 44) rfl)
theorem w45 {Z : State} {a0 : Array Value} (hw : ∀ d ∈ tables_1, d.before a0 Z = true) : (Jvm.Cond.laysFinal "java/lang/Integer" "java/lang/Integer" "value" "I").before a0 Z = true := hw _ (List.mem_of_getElem? (i := 45) rfl)
def own_eq (a b c d : Int32) : Int32 := if ¬ c = a then 0 else if ¬ d = b then 0 else 1
theorem own_eqs (a b c d : Int32) : own_eq a b c d = if a = c ∧ b = d then 1 else 0 := by
  simp only [own_eq]
  by_cases h1 : a = c <;> by_cases h2 : b = d <;> simp [h1, h2, Ne.symm, eq_comm] <;> (try (intro h; exact absurd h.symm h1)) <;> (try (intro h; exact absurd h.symm h2))
theorem own_eqt (a b c d : Int32) : own_eq c d a b = if a = c ∧ b = d then 1 else 0 := by
  simp only [own_eq]
  by_cases h1 : a = c <;> by_cases h2 : b = d <;> simp [h1, h2]
theorem own_r3 (a : Int32) : ¬ (a &&& 3) < 0 ∧ ¬ 3 < (a &&& 3) := by
  have h := c_and a 3 (by decide); have e : (3 : Int32).toInt = 3 := rfl; have e0 : (0 : Int32).toInt = 0 := rfl
  rw [n_lt, n_lt]; omega
theorem own_rM (a : Int32) : ¬ (a &&& 2147483647) < 0 := by
  have h := c_and a 2147483647 (by decide); have e0 : (0 : Int32).toInt = 0 := rfl
  rw [n_lt]; omega
theorem d6_0 : decode jdk_18_method_1_code 0 = .ok (.aload_n 0, 1) := by decide +kernel
theorem d6_1 : decode jdk_18_method_1_code 1 = .ok (.invokespecial 1, 3) := by decide +kernel
theorem d6_4 : decode jdk_18_method_1_code 4 = .ok (.return_, 1) := by decide +kernel
theorem pn6 : plainFor (⟨"java/lang/Number", "<init>", "()V"⟩ : MethodName) = true := plainFor_of_name (by first | (simp [plainName, overriddenIn]; done) | decide +kernel)
theorem pd6 : parseMethodDescriptor "()V" = some ⟨[], none⟩ := by decide +kernel
set_option maxRecDepth 65536 in
set_option maxHeartbeats 40000000 in
theorem rm6 (l : Launch) (Z : State) (a0 : Array Value) (hw : ∀ d ∈ tables_1, d.before a0 Z = true) (a1 : Addr)  (h0 : Heap) (n0 : Nat) (Z0 : n0 ≤ h0.size)  :
    oC l Z n0 (⟨"java/lang/Number", "<init>", "()V"⟩ : MethodName) jdk_18_method_1_code 1 none ({ frames := 1, cells := 0, slots := 0, locals := 12 } : Room) 0 0 #[(.ref a1)] h0 (fun v h => v = none ∧ h0 = h) := by
  refine oC.of (L := #[.val (.ref a1)]) pn6 Z0 (fun m => by first | (simp [entryFrame, mkF, argsToLocals, Value.category]; done) | rfl) ?_
  intro p e s m below meth c T H
  refine o_aloadN H rfl rfl d6_0 rfl ?_
  refine o_initO H (w43 hw) (w8 hw) (w9 hw) d6_1 rfl rfl (by decide) (Nat.le_of_ble_eq_true rfl) ?_
  intro T1 H2
  exact o_return H2 rfl d6_4 (by decide) (by decide) ⟨rfl, rfl⟩
theorem d5_0 : decode jdk_33_method_23_code 0 = .ok (.aload_n 0, 1) := by decide +kernel
theorem d5_1 : decode jdk_33_method_23_code 1 = .ok (.invokespecial 202, 3) := by decide +kernel
theorem d5_4 : decode jdk_33_method_23_code 4 = .ok (.aload_n 0, 1) := by decide +kernel
theorem d5_5 : decode jdk_33_method_23_code 5 = .ok (.iload_n 1, 1) := by decide +kernel
theorem d5_6 : decode jdk_33_method_23_code 6 = .ok (.putfield 205, 3) := by decide +kernel
theorem d5_9 : decode jdk_33_method_23_code 9 = .ok (.return_, 1) := by decide +kernel
theorem pn5 : plainFor (⟨"java/lang/Integer", "<init>", "(I)V"⟩ : MethodName) = true := plainFor_of_name (by first | (simp [plainName, overriddenIn]; done) | decide +kernel)
theorem pd5 : parseMethodDescriptor "(I)V" = some ⟨[.int], none⟩ := by decide +kernel
set_option maxRecDepth 65536 in
set_option maxHeartbeats 40000000 in
theorem rm5 (l : Launch) (Z : State) (a0 : Array Value) (hw : ∀ d ∈ tables_1, d.before a0 Z = true) (a1 : Addr) (p1 : Int32)  (h0 : Heap) (n0 : Nat) (Z0 : n0 ≤ h0.size) (E_a1 : Exa Z h0 a1 "java/lang/Integer") (g_a1 : n0 ≤ a1) (F_value_a1 : Fld Z h0 a1 "java/lang/Integer" "value" "I" (.int (0 : Int32)))  :
    oC l Z n0 (⟨"java/lang/Integer", "<init>", "(I)V"⟩ : MethodName) jdk_33_method_23_code 2 none ({ frames := 2, cells := 0, slots := 0, locals := 24 } : Room) 0 0 #[(.ref a1), (.int p1)] h0 (fun v h => v = none ∧ Keep h0 h [a1] ∧ Fld Z h a1 "java/lang/Integer" "value" "I" (.int p1)) := by
  refine oC.of (L := #[.val (.ref a1), .val (.int p1)]) pn5 Z0 (fun m => by first | (simp [entryFrame, mkF, argsToLocals, Value.category]; done) | rfl) ?_
  intro p e s m below meth c T H
  refine o_aloadN H rfl rfl d5_0 rfl ?_
  refine o_special H [] [] (rm6 l Z a0 hw a1 h0 n0 H.le) rfl (w37 hw) (w38 hw) (w41 hw) (w42 hw) (by decide) (lenOf pd6 rfl) rfl rfl (by decide) (Nat.le_of_ble_eq_true rfl) (by decide) (by decide) d5_1 rfl ?_
  intro T1 v1 h1 H1 q1
  obtain ⟨rfl, rfl⟩ := q1
  show oG p e below s n0 _ _ _ (T1.setTop (mkF m 4 #[.val (.ref a1), .val (.int p1)] []))
  refine o_aloadN H1 rfl rfl d5_4 rfl ?_
  refine o_iloadN H1 rfl d5_5 rfl ?_
  refine o_putF H1 (host := "") (Or.inl (w44 hw)) F_value_a1 E_a1 (Or.inr ⟨(w45 hw), rfl, rfl⟩) (w32 hw) (ty := .int) (by decide) rfl rfl g_a1 d5_6 rfl ?_
  intro T2 h2 H2 W2
  have k3 := (Keep.refl h0 [a1]).wr W2 (Or.inl (by simp))
  have f4 := E_a1.wr W2
  have f5 := F_value_a1.same W2
  exact o_return H2 rfl d5_9 (by decide) (by decide) ⟨rfl, k3, f5⟩
theorem d4_0 : decode jdk_33_method_22_code 0 = .ok (.iload_n 0, 1) := by decide +kernel
theorem d4_1 : decode jdk_33_method_22_code 1 = .ok (.bipush (-128), 2) := by decide +kernel
theorem d4_3 : decode jdk_33_method_22_code 3 = .ok (.if_icmp .lt 20, 3) := by decide +kernel
theorem d4_6 : decode jdk_33_method_22_code 6 = .ok (.iload_n 0, 1) := by decide +kernel
theorem d4_7 : decode jdk_33_method_22_code 7 = .ok (.getstatic 191, 3) := by decide +kernel
theorem d4_10 : decode jdk_33_method_22_code 10 = .ok (.if_icmp .gt 13, 3) := by decide +kernel
theorem d4_13 : decode jdk_33_method_22_code 13 = .ok (.getstatic 195, 3) := by decide +kernel
theorem d4_16 : decode jdk_33_method_22_code 16 = .ok (.iload_n 0, 1) := by decide +kernel
theorem d4_17 : decode jdk_33_method_22_code 17 = .ok (.sipush 128, 3) := by decide +kernel
theorem d4_20 : decode jdk_33_method_22_code 20 = .ok (.iadd, 1) := by decide +kernel
theorem d4_21 : decode jdk_33_method_22_code 21 = .ok (.aaload, 1) := by decide +kernel
theorem d4_22 : decode jdk_33_method_22_code 22 = .ok (.areturn, 1) := by decide +kernel
theorem d4_23 : decode jdk_33_method_22_code 23 = .ok (.new 1, 3) := by decide +kernel
theorem d4_26 : decode jdk_33_method_22_code 26 = .ok (.dup, 1) := by decide +kernel
theorem d4_27 : decode jdk_33_method_22_code 27 = .ok (.iload_n 0, 1) := by decide +kernel
theorem d4_28 : decode jdk_33_method_22_code 28 = .ok (.invokespecial 199, 3) := by decide +kernel
theorem d4_31 : decode jdk_33_method_22_code 31 = .ok (.areturn, 1) := by decide +kernel
theorem pn4 : plainFor (⟨"java/lang/Integer", "valueOf", "(I)Ljava/lang/Integer;"⟩ : MethodName) = true := plainFor_of_name (by first | (simp [plainName, overriddenIn]; done) | decide +kernel)
theorem pd4 : parseMethodDescriptor "(I)Ljava/lang/Integer;" = some ⟨[.int], some (.object "java/lang/Integer")⟩ := by decide +kernel
set_option maxRecDepth 65536 in
set_option maxHeartbeats 40000000 in
theorem rm4 (l : Launch) (Z : State) (a0 : Array Value) (hw : ∀ d ∈ tables_1, d.before a0 Z = true) (p1 : Int32) (ca : Addr) (cl : Cell) (h0 : Heap) (n0 : Nat) (Z0 : n0 ≤ h0.size) (S_high : Sta Z h0 "java/lang/Integer$IntegerCache" "high" "I" (.int 127)) (S_cache : Sta Z h0 "java/lang/Integer$IntegerCache" "cache" "[Ljava/lang/Integer;" (.ref ca)) (AC : Arr Z Z.heap ca cl (.object "java/lang/Integer")) (BX : ∀ j : Int32, ¬ j < 0 → j < 256 → ¬ (j < 0 ∨ cl.slots.size ≤ j.toNatClampNeg) ∧ ∃ b, cl.slots[j.toNatClampNeg]? = some (.ref b) ∧ Exa Z Z.heap b "java/lang/Integer") (E0 : Ext Z.heap h0) :
    oC l Z n0 (⟨"java/lang/Integer", "valueOf", "(I)Ljava/lang/Integer;"⟩ : MethodName) jdk_33_method_22_code 1 (some (.object "java/lang/Integer")) ({ frames := 3, cells := 1, slots := 1, locals := 38 } : Room) 1 1 #[(.int p1)] h0 (fun v h => ∃ r, v = some (.ref r) ∧ Keep h0 h [] ∧ Exa Z h r "java/lang/Integer") := by
  refine oC.of (L := #[.val (.int p1)]) pn4 Z0 (fun m => by first | (simp [entryFrame, mkF, argsToLocals, Value.category]; done) | rfl) ?_
  intro p e s m below meth c T H
  refine o_iloadN H rfl d4_0 rfl ?_
  refine o_bipush H (-128 : Int32) rfl d4_1 rfl ?_
  refine o_icmp_lt H d4_3 (pt := 23) (by decide) (by decide) rfl ?_ ?_
  · intro c3_1
    refine o_new H (w31 hw) (w32 hw) (w23 hw) d4_23 rfl (by decide) (by decide) ?_
    intro T2 h2 b2 g2 H2 E2 A2 D2
    have z2 : n0 ≤ b2 := by rw [g2]; exact H.le
    have y2 : h0.size ≤ b2 := by rw [g2]; exact (Keep.refl h0 []).1
    have k3 := (Keep.refl h0 []).ext E2
    have f4 : Fld Z h2 b2 "java/lang/Integer" "value" "I" (.int (0 : Int32)) := D2 (Or.inr (w45 hw)) (ty := .int) (by decide)
    refine o_dup H2 rfl d4_26 rfl ?_
    refine o_iloadN H2 rfl d4_27 rfl ?_
    refine o_special H2 [(.int p1)] [(.ref b2)] (rm5 l Z a0 hw b2 p1 h2 n0 H2.le A2 z2 f4 ) rfl (w33 hw) (w34 hw) (w23 hw) (w36 hw) (by decide) (lenOf pd5 rfl) rfl rfl (by decide) (Nat.le_of_ble_eq_true rfl) (by decide) (by decide) d4_28 rfl ?_
    intro T5 v5 h5 H5 q5
    obtain ⟨rfl, K5, F5_0⟩ := q5
    have k6 := k3.trans K5 (allS (Or.inr y2) all0)
    have f7 := A2.keep K5
    show oG p e below s n0 _ _ _ (T5.setTop (mkF m 31 #[.val (.int p1)] [(.ref b2)]))
    exact o_areturn H5 rfl rfl rfl rfl d4_31 (by decide) (by decide) ⟨_, rfl, k6, f7⟩
  · intro c3_1
    refine o_iloadN H rfl d4_6 rfl ?_
    refine o_getS H (host := "") (Or.inl (w25 hw)) S_high d4_7 rfl ?_
    intro T8 H9
    refine o_icmp_gt H9 d4_10 (pt := 23) (by decide) (by decide) rfl ?_ ?_
    · intro c10_10
      refine o_new H9 (w31 hw) (w32 hw) (w23 hw) d4_23 rfl (by decide) (by decide) ?_
      intro T11 h11 b11 g11 H11 E11 A11 D11
      have z11 : n0 ≤ b11 := by rw [g11]; exact H9.le
      have y11 : h0.size ≤ b11 := by rw [g11]; exact (Keep.refl h0 []).1
      have k12 := (Keep.refl h0 []).ext E11
      have f13 : Fld Z h11 b11 "java/lang/Integer" "value" "I" (.int (0 : Int32)) := D11 (Or.inr (w45 hw)) (ty := .int) (by decide)
      refine o_dup H11 rfl d4_26 rfl ?_
      refine o_iloadN H11 rfl d4_27 rfl ?_
      refine o_special H11 [(.int p1)] [(.ref b11)] (rm5 l Z a0 hw b11 p1 h11 n0 H11.le A11 z11 f13 ) rfl (w33 hw) (w34 hw) (w23 hw) (w36 hw) (by decide) (lenOf pd5 rfl) rfl rfl (by decide) (Nat.le_of_ble_eq_true rfl) (by decide) (by decide) d4_28 rfl ?_
      intro T14 v14 h14 H14 q14
      obtain ⟨rfl, K14, F14_0⟩ := q14
      have k15 := k12.trans K14 (allS (Or.inr y11) all0)
      have f16 := A11.keep K14
      show oG p e below s n0 _ _ _ (T14.setTop (mkF m 31 #[.val (.int p1)] [(.ref b11)]))
      exact o_areturn H14 rfl rfl rfl rfl d4_31 (by decide) (by decide) ⟨_, rfl, k15, f16⟩
    · intro c10_10
      refine o_getS H9 (host := "") (Or.inl (w27 hw)) S_cache d4_13 rfl ?_
      intro T17 H18
      refine o_iloadN H18 rfl d4_16 rfl ?_
      refine o_sipush H18 (128 : Int32) rfl d4_17 rfl ?_
      refine o_iadd H18 d4_20 rfl ?_
      have hj : (p1 + 128).toInt = p1.toInt + 128 := by
        rw [n_lt] at c3_1 c10_10; have e : (128 : Int32).toInt = 128 := rfl; have e' : (-128 : Int32).toInt = -128 := rfl; have e'' : (127 : Int32).toInt = 127 := rfl
        rw [Int32.toInt_add, e]; apply Int.bmod_eq_of_le <;> omega
      obtain ⟨hin, bx, hb1, hb2⟩ := BX (p1 + 128) (by rw [n_lt] at *; have e0 : (0 : Int32).toInt = 0 := rfl; have e' : (-128 : Int32).toInt = -128 := rfl; omega) (by rw [n_lt] at *; have e0 : (256 : Int32).toInt = 256 := rfl; have e' : (127 : Int32).toInt = 127 := rfl; omega)
      refine o_aaloadC H18 (.ref bx) (AC.ext E0) rfl hin hb1 d4_21 rfl ?_
      exact o_areturn H18 rfl rfl rfl rfl d4_22 (by decide) (by decide) ⟨_, rfl, (Keep.refl h0 []), (hb2.ext E0)⟩
theorem d1_0 : decode prog_21_method_1_code 0 = .ok (.aload_n 0, 1) := by decide +kernel
theorem d1_1 : decode prog_21_method_1_code 1 = .ok (.invokespecial 1, 3) := by decide +kernel
theorem d1_4 : decode prog_21_method_1_code 4 = .ok (.iload_n 1, 1) := by decide +kernel
theorem d1_5 : decode prog_21_method_1_code 5 = .ok (.ifCond .lt 12, 3) := by decide +kernel
theorem d1_8 : decode prog_21_method_1_code 8 = .ok (.iload_n 1, 1) := by decide +kernel
theorem d1_9 : decode prog_21_method_1_code 9 = .ok (.iconst 3, 1) := by decide +kernel
theorem d1_10 : decode prog_21_method_1_code 10 = .ok (.if_icmp .gt 7, 3) := by decide +kernel
theorem d1_13 : decode prog_21_method_1_code 13 = .ok (.iload_n 2, 1) := by decide +kernel
theorem d1_14 : decode prog_21_method_1_code 14 = .ok (.ifCond .ge 18, 3) := by decide +kernel
theorem d1_32 : decode prog_21_method_1_code 32 = .ok (.aload_n 0, 1) := by decide +kernel
theorem d1_33 : decode prog_21_method_1_code 33 = .ok (.iload_n 1, 1) := by decide +kernel
theorem d1_34 : decode prog_21_method_1_code 34 = .ok (.putfield 18, 3) := by decide +kernel
theorem d1_37 : decode prog_21_method_1_code 37 = .ok (.aload_n 0, 1) := by decide +kernel
theorem d1_38 : decode prog_21_method_1_code 38 = .ok (.iload_n 2, 1) := by decide +kernel
theorem d1_39 : decode prog_21_method_1_code 39 = .ok (.putfield 22, 3) := by decide +kernel
theorem d1_42 : decode prog_21_method_1_code 42 = .ok (.return_, 1) := by decide +kernel
theorem pn1 : plainFor (⟨"com/example/lachesis/lachesis/BerTag", "<init>", "(II)V"⟩ : MethodName) = true := plainFor_of_name (by first | (simp [plainName, overriddenIn]; done) | decide +kernel)
theorem pd1 : parseMethodDescriptor "(II)V" = some ⟨[.int, .int], none⟩ := by decide +kernel
set_option maxRecDepth 65536 in
set_option maxHeartbeats 40000000 in
theorem rm1 (l : Launch) (Z : State) (a0 : Array Value) (hw : ∀ d ∈ tables_1, d.before a0 Z = true) (a1 : Addr) (p1 : Int32) (p2 : Int32)  (h0 : Heap) (n0 : Nat) (Z0 : n0 ≤ h0.size) (E_a1 : Exa Z h0 a1 "com/example/lachesis/lachesis/BerTag") (g_a1 : n0 ≤ a1) (F_tagClass_a1 : Fld Z h0 a1 "com/example/lachesis/lachesis/BerTag" "tagClass" "I" (.int (0 : Int32))) (F_number_a1 : Fld Z h0 a1 "com/example/lachesis/lachesis/BerTag" "number" "I" (.int (0 : Int32))) (hp1 : ¬ p1 < 0) (hp2 : ¬ 3 < p1) (hp3 : ¬ p2 < 0) :
    oC l Z n0 (⟨"com/example/lachesis/lachesis/BerTag", "<init>", "(II)V"⟩ : MethodName) prog_21_method_1_code 3 none ({ frames := 1, cells := 0, slots := 0, locals := 12 } : Room) 0 0 #[(.ref a1), (.int p1), (.int p2)] h0 (fun v h => v = none ∧ Keep h0 h [a1] ∧ Fld Z h a1 "com/example/lachesis/lachesis/BerTag" "tagClass" "I" (.int p1) ∧ Fld Z h a1 "com/example/lachesis/lachesis/BerTag" "number" "I" (.int p2)) := by
  refine oC.of (L := #[.val (.ref a1), .val (.int p1), .val (.int p2)]) pn1 Z0 (fun m => by first | (simp [entryFrame, mkF, argsToLocals, Value.category]; done) | rfl) ?_
  intro p e s m below meth c T H
  refine o_aloadN H rfl rfl d1_0 rfl ?_
  refine o_initO H (w7 hw) (w8 hw) (w9 hw) d1_1 rfl rfl (by decide) (Nat.le_of_ble_eq_true rfl) ?_
  intro T1 H2
  refine o_iloadN H2 rfl d1_4 rfl ?_
  refine o_if_f H2 d1_5 (XT.i0_lt_f hp1) rfl ?_
  refine o_iloadN H2 rfl d1_8 rfl ?_
  refine o_iconst H2 (3 : Int32) rfl d1_9 rfl ?_
  refine o_icmp_f H2 d1_10 (XT.ii_gt_f hp2) rfl ?_
  refine o_iloadN H2 rfl d1_13 rfl ?_
  refine o_if_t H2 d1_14 (XT.i0_ge_t hp3) (pt := 32) (by decide) (by decide) ?_
  refine o_aloadN H2 rfl rfl d1_32 rfl ?_
  refine o_iloadN H2 rfl d1_33 rfl ?_
  refine o_putF H2 (host := "") (Or.inl (w10 hw)) F_tagClass_a1 E_a1 (Or.inr ⟨(w11 hw), rfl, rfl⟩) (w2 hw) (ty := .int) (by decide) rfl rfl g_a1 d1_34 rfl ?_
  intro T3 h3 H3 W3
  have k4 := (Keep.refl h0 [a1]).wr W3 (Or.inl (by simp))
  have f5 := E_a1.wr W3
  have f6 := F_tagClass_a1.same W3
  have f7 := F_number_a1.other W3 (Or.inr (slot_ne (Or.inr (w13 hw)) (Or.inr (w11 hw)) (by decide) (t := .int) (t' := .int) (by decide) (by decide)))
  refine o_aloadN H3 rfl rfl d1_37 rfl ?_
  refine o_iloadN H3 rfl d1_38 rfl ?_
  refine o_putF H3 (host := "") (Or.inl (w12 hw)) f7 f5 (Or.inr ⟨(w13 hw), rfl, rfl⟩) (w2 hw) (ty := .int) (by decide) rfl rfl g_a1 d1_39 rfl ?_
  intro T8 h8 H8 W8
  have k9 := k4.wr W8 (Or.inl (by simp))
  have f10 := f5.wr W8
  have f11 := f6.other W8 (Or.inr (slot_ne (Or.inr (w11 hw)) (Or.inr (w13 hw)) (by decide) (t := .int) (t' := .int) (by decide) (by decide)))
  have f12 := f7.same W8
  exact o_return H8 rfl d1_42 (by decide) (by decide) ⟨rfl, k9, f11, f12⟩
theorem d3_0 : decode prog_21_method_7_code 0 = .ok (.aload_n 1, 1) := by decide +kernel
theorem d3_1 : decode prog_21_method_7_code 1 = .ok (.instanceof 7, 3) := by decide +kernel
theorem d3_4 : decode prog_21_method_7_code 4 = .ok (.ifCond .eq 34, 3) := by decide +kernel
theorem d3_7 : decode prog_21_method_7_code 7 = .ok (.aload_n 1, 1) := by decide +kernel
theorem d3_8 : decode prog_21_method_7_code 8 = .ok (.checkcast 7, 3) := by decide +kernel
theorem d3_11 : decode prog_21_method_7_code 11 = .ok (.astore_n 2, 1) := by decide +kernel
theorem d3_12 : decode prog_21_method_7_code 12 = .ok (.aload_n 2, 1) := by decide +kernel
theorem d3_13 : decode prog_21_method_7_code 13 = .ok (.getfield 18, 3) := by decide +kernel
theorem d3_16 : decode prog_21_method_7_code 16 = .ok (.aload_n 0, 1) := by decide +kernel
theorem d3_17 : decode prog_21_method_7_code 17 = .ok (.getfield 18, 3) := by decide +kernel
theorem d3_20 : decode prog_21_method_7_code 20 = .ok (.if_icmp .ne 18, 3) := by decide +kernel
theorem d3_23 : decode prog_21_method_7_code 23 = .ok (.aload_n 2, 1) := by decide +kernel
theorem d3_24 : decode prog_21_method_7_code 24 = .ok (.getfield 22, 3) := by decide +kernel
theorem d3_27 : decode prog_21_method_7_code 27 = .ok (.aload_n 0, 1) := by decide +kernel
theorem d3_28 : decode prog_21_method_7_code 28 = .ok (.getfield 22, 3) := by decide +kernel
theorem d3_31 : decode prog_21_method_7_code 31 = .ok (.if_icmp .ne 7, 3) := by decide +kernel
theorem d3_34 : decode prog_21_method_7_code 34 = .ok (.iconst 1, 1) := by decide +kernel
theorem d3_35 : decode prog_21_method_7_code 35 = .ok (.goto 4, 3) := by decide +kernel
theorem d3_38 : decode prog_21_method_7_code 38 = .ok (.iconst 0, 1) := by decide +kernel
theorem d3_39 : decode prog_21_method_7_code 39 = .ok (.ireturn, 1) := by decide +kernel
theorem pn3 : plainFor (⟨"com/example/lachesis/lachesis/BerTag", "equals", "(Ljava/lang/Object;)Z"⟩ : MethodName) = true := plainFor_of_name (by first | (simp [plainName, overriddenIn]; done) | decide +kernel)
theorem pd3 : parseMethodDescriptor "(Ljava/lang/Object;)Z" = some ⟨[(.object "java/lang/Object")], some .boolean⟩ := by decide +kernel
set_option maxRecDepth 65536 in
set_option maxHeartbeats 40000000 in
theorem rm3_T (l : Launch) (Z : State) (a0 : Array Value) (hw : ∀ d ∈ tables_1, d.before a0 Z = true) (a1 : Addr) (a2 : Addr) (q1 q2 q3 q4 : Int32) (h0 : Heap) (n0 : Nat) (Z0 : n0 ≤ h0.size) (E_a1 : Exa Z h0 a1 "com/example/lachesis/lachesis/BerTag") (F_tagClass_a1 : Fld Z h0 a1 "com/example/lachesis/lachesis/BerTag" "tagClass" "I" (.int q1)) (F_number_a1 : Fld Z h0 a1 "com/example/lachesis/lachesis/BerTag" "number" "I" (.int q2)) (E_a2 : Exa Z h0 a2 "com/example/lachesis/lachesis/BerTag") (F_tagClass_a2 : Fld Z h0 a2 "com/example/lachesis/lachesis/BerTag" "tagClass" "I" (.int q3)) (F_number_a2 : Fld Z h0 a2 "com/example/lachesis/lachesis/BerTag" "number" "I" (.int q4)) :
    oC l Z n0 (⟨"com/example/lachesis/lachesis/BerTag", "equals", "(Ljava/lang/Object;)Z"⟩ : MethodName) prog_21_method_7_code 3 (some .boolean) ({ frames := 0, cells := 0, slots := 0, locals := 0 } : Room) 0 0 #[(.ref a1), (.ref a2)] h0 (fun v h => v = some (.int (own_eq q1 q2 q3 q4)) ∧ h0 = h) := by
  refine oC.of (L := #[.val (.ref a1), .val (.ref a2), .unset]) pn3 Z0 (fun m => by first | (simp [entryFrame, mkF, argsToLocals, Value.category]; done) | rfl) ?_
  intro p e s m below meth c T H
  refine o_aloadN H rfl rfl d3_0 rfl ?_
  refine o_instY H (w19 hw) (Ins.self E_a2) d3_1 rfl ?_
  intro T1 H2
  refine o_if_f H2 d3_4 (by decide) rfl ?_
  refine o_aloadN H2 rfl rfl d3_7 rfl ?_
  refine o_castY H2 (w19 hw) (Ins.self E_a2) d3_8 rfl ?_
  intro T3 H4
  refine o_astoreN H4 (L' := #[.val (.ref a1), .val (.ref a2), .val (.ref a2)]) rfl rfl d3_11 rfl ?_
  refine o_aloadN H4 rfl rfl d3_12 rfl ?_
  refine o_getF H4 (host := "") (Or.inl (w10 hw)) F_tagClass_a2 d3_13 rfl ?_
  intro T5 H6
  refine o_aloadN H6 rfl rfl d3_16 rfl ?_
  refine o_getF H6 (host := "") (Or.inl (w10 hw)) F_tagClass_a1 d3_17 rfl ?_
  intro T7 H8
  refine o_icmp_ne H8 d3_20 (pt := 38) (by decide) (by decide) rfl ?_ ?_
  · intro c20_9
    refine o_iconst H8 (0 : Int32) rfl d3_38 rfl ?_
    exact o_nreturn H8 .boolean rfl (by simp) d3_39 (by decide) (by decide) ⟨by simp [own_eq, nar, c20_9], rfl⟩
  · intro c20_9
    refine o_aloadN H8 rfl rfl d3_23 rfl ?_
    refine o_getF H8 (host := "") (Or.inl (w12 hw)) F_number_a2 d3_24 rfl ?_
    intro T10 H11
    refine o_aloadN H11 rfl rfl d3_27 rfl ?_
    refine o_getF H11 (host := "") (Or.inl (w12 hw)) F_number_a1 d3_28 rfl ?_
    intro T12 H13
    refine o_icmp_ne H13 d3_31 (pt := 38) (by decide) (by decide) rfl ?_ ?_
    · intro c31_14
      refine o_iconst H13 (0 : Int32) rfl d3_38 rfl ?_
      exact o_nreturn H13 .boolean rfl (by simp) d3_39 (by decide) (by decide) ⟨by simp [own_eq, nar, c20_9, c31_14], rfl⟩
    · intro c31_14
      refine o_iconst H13 (1 : Int32) rfl d3_34 rfl ?_
      refine o_goto H13 d3_35 (pt := 39) (by decide) (by decide) ?_
      exact o_nreturn H13 .boolean rfl (by simp) d3_39 (by decide) (by decide) ⟨by simp [own_eq, nar, c20_9, c31_14], rfl⟩
set_option maxRecDepth 65536 in
set_option maxHeartbeats 40000000 in
theorem rm3_N (l : Launch) (Z : State) (a0 : Array Value) (hw : ∀ d ∈ tables_1, d.before a0 Z = true) (a1 : Addr)  (h0 : Heap) (n0 : Nat) (Z0 : n0 ≤ h0.size)  :
    oC l Z n0 (⟨"com/example/lachesis/lachesis/BerTag", "equals", "(Ljava/lang/Object;)Z"⟩ : MethodName) prog_21_method_7_code 3 (some .boolean) ({ frames := 0, cells := 0, slots := 0, locals := 0 } : Room) 0 0 #[(.ref a1), .null] h0 (fun v h => v = some (.int 0) ∧ h0 = h) := by
  refine oC.of (L := #[.val (.ref a1), .val .null, .unset]) pn3 Z0 (fun m => by first | (simp [entryFrame, mkF, argsToLocals, Value.category]; done) | rfl) ?_
  intro p e s m below meth c T H
  refine o_aloadN H rfl rfl d3_0 rfl ?_
  refine o_instNull H d3_1 rfl ?_
  refine o_if_t H d3_4 (by decide) (pt := 38) (by decide) (by decide) ?_
  refine o_iconst H (0 : Int32) rfl d3_38 rfl ?_
  exact o_nreturn H .boolean rfl (by simp) d3_39 (by decide) (by decide) ⟨rfl, rfl⟩
set_option maxRecDepth 65536 in
set_option maxHeartbeats 40000000 in
theorem rm3_I (l : Launch) (Z : State) (a0 : Array Value) (hw : ∀ d ∈ tables_1, d.before a0 Z = true) (a1 : Addr) (a2 : Addr)  (h0 : Heap) (n0 : Nat) (Z0 : n0 ≤ h0.size) (E_a2 : Exa Z h0 a2 "java/lang/Integer") :
    oC l Z n0 (⟨"com/example/lachesis/lachesis/BerTag", "equals", "(Ljava/lang/Object;)Z"⟩ : MethodName) prog_21_method_7_code 3 (some .boolean) ({ frames := 0, cells := 0, slots := 0, locals := 0 } : Room) 0 0 #[(.ref a1), (.ref a2)] h0 (fun v h => v = some (.int 0) ∧ h0 = h) := by
  refine oC.of (L := #[.val (.ref a1), .val (.ref a2), .unset]) pn3 Z0 (fun m => by first | (simp [entryFrame, mkF, argsToLocals, Value.category]; done) | rfl) ?_
  intro p e s m below meth c T H
  refine o_aloadN H rfl rfl d3_0 rfl ?_
  refine o_instNo H (w19 hw) E_a2 (o_ns (w28 hw) (w2 hw) (NS.step (w28 hw) (NS.step (w29 hw) (o_subRoot (w30 hw) (w2 hw) (by decide)) (by decide)) (by decide)) (by decide)) d3_1 rfl ?_
  intro T1 H2
  refine o_if_t H2 d3_4 (by decide) (pt := 38) (by decide) (by decide) ?_
  refine o_iconst H2 (0 : Int32) rfl d3_38 rfl ?_
  exact o_nreturn H2 .boolean rfl (by simp) d3_39 (by decide) (by decide) ⟨rfl, rfl⟩
theorem pn0 : plainFor x = true := plainFor_of_name (by first | (simp [plainName, overriddenIn]; done) | decide +kernel)
set_option maxRecDepth 65536 in
set_option maxHeartbeats 40000000 in
theorem rm0 (l : Launch) (Z : State) (a0 : Array Value) (hw : ∀ d ∈ tables_1, d.before a0 Z = true) (p1 : Int32) (p2 : Int32) (p3 : Int32) (p4 : Int32) (p5 : Int32) (ca : Addr) (cl : Cell) (h0 : Heap) (n0 : Nat) (Z0 : n0 ≤ h0.size) (S_high : Sta Z h0 "java/lang/Integer$IntegerCache" "high" "I" (.int 127)) (S_cache : Sta Z h0 "java/lang/Integer$IntegerCache" "cache" "[Ljava/lang/Integer;" (.ref ca)) (AC : Arr Z Z.heap ca cl (.object "java/lang/Integer")) (BX : ∀ j : Int32, ¬ j < 0 → j < 256 → ¬ (j < 0 ∨ cl.slots.size ≤ j.toNatClampNeg) ∧ ∃ b, cl.slots[j.toNatClampNeg]? = some (.ref b) ∧ Exa Z Z.heap b "java/lang/Integer") (E0 : Ext Z.heap h0) :
    oC l Z n0 x code maxLocals ret room_1 16 128 #[(.int p1), (.int p2), (.int p3), (.int p4), (.int p5)] h0 (fun v h => v = some (.int 1)) := by
  refine oC.of (L := #[.val (.int p1), .val (.int p2), .val (.int p3), .val (.int p4), .val (.int p5), .unset, .unset, .unset, .unset, .unset, .unset, .unset, .unset]) pn0 Z0 (fun m => by first | (simp [entryFrame, mkF, argsToLocals, Value.category, maxLocals]; done) | rfl) ?_
  intro p e s m below meth c T H
  refine o_iloadN H rfl at_0 rfl ?_
  refine o_iconst H (3 : Int32) rfl at_1 rfl ?_
  refine o_iand H at_2 rfl ?_
  refine o_istore H (L' := #[.val (.int p1), .val (.int p2), .val (.int p3), .val (.int p4), .val (.int p5), .val (.int (p1 &&& (3 : Int32))), .unset, .unset, .unset, .unset, .unset, .unset, .unset]) rfl at_3 rfl ?_
  refine o_iloadN H rfl at_5 rfl ?_
  refine o_ldcI H (2147483647 : Int32) (w0 hw) at_6 rfl ?_
  refine o_iand H at_8 rfl ?_
  refine o_istore H (L' := #[.val (.int p1), .val (.int p2), .val (.int p3), .val (.int p4), .val (.int p5), .val (.int (p1 &&& (3 : Int32))), .val (.int (p2 &&& (2147483647 : Int32))), .unset, .unset, .unset, .unset, .unset, .unset]) rfl at_9 rfl ?_
  refine o_iload H rfl at_11 rfl ?_
  refine o_iconst H (1 : Int32) rfl at_13 rfl ?_
  refine o_iand H at_14 rfl ?_
  refine o_if_eq H at_15 (pt := 23) (by decide) (by decide) rfl ?_ ?_
  · intro c15_1
    refine o_iloadN H rfl at_23 rfl ?_
    refine o_iconst H (3 : Int32) rfl at_24 rfl ?_
    refine o_iand H at_25 rfl ?_
    refine o_istore H (L' := #[.val (.int p1), .val (.int p2), .val (.int p3), .val (.int p4), .val (.int p5), .val (.int (p1 &&& (3 : Int32))), .val (.int (p2 &&& (2147483647 : Int32))), .val (.int (p3 &&& (3 : Int32))), .unset, .unset, .unset, .unset, .unset]) rfl at_26 rfl ?_
    refine o_iload H rfl at_28 rfl ?_
    refine o_iconst H (2 : Int32) rfl at_30 rfl ?_
    refine o_iand H at_31 rfl ?_
    refine o_if_eq H at_32 (pt := 40) (by decide) (by decide) rfl ?_ ?_
    · intro c32_2
      refine o_iloadN H rfl at_40 rfl ?_
      refine o_ldcI H (2147483647 : Int32) (w0 hw) at_41 rfl ?_
      refine o_iand H at_43 rfl ?_
      refine o_istore H (L' := #[.val (.int p1), .val (.int p2), .val (.int p3), .val (.int p4), .val (.int p5), .val (.int (p1 &&& (3 : Int32))), .val (.int (p2 &&& (2147483647 : Int32))), .val (.int (p3 &&& (3 : Int32))), .val (.int (p4 &&& (2147483647 : Int32))), .unset, .unset, .unset, .unset]) rfl at_44 rfl ?_
      obtain ⟨ka, e_ka⟩ : ∃ z : Int32, z = (p1 &&& (3 : Int32)) := ⟨_, rfl⟩
      rw [← e_ka]
      have r_ka := own_r3 p1
      rw [← e_ka] at r_ka
      obtain ⟨kx, e_kx⟩ : ∃ z : Int32, z = (p2 &&& (2147483647 : Int32)) := ⟨_, rfl⟩
      rw [← e_kx]
      have r_kx := own_rM p2
      rw [← e_kx] at r_kx
      obtain ⟨kb, e_kb⟩ : ∃ z : Int32, z = (p3 &&& (3 : Int32)) := ⟨_, rfl⟩
      rw [← e_kb]
      have r_kb := own_r3 p3
      rw [← e_kb] at r_kb
      obtain ⟨ky, e_ky⟩ : ∃ z : Int32, z = (p4 &&& (2147483647 : Int32)) := ⟨_, rfl⟩
      rw [← e_ky]
      have r_ky := own_rM p4
      rw [← e_ky] at r_ky
      refine o_new H (w1 hw) (w2 hw) (w3 hw) at_46 rfl (by decide) (by decide) ?_
      intro T3 h3 b3 g3 H3 E3 A3 D3
      have z3 : n0 ≤ b3 := by rw [g3]; exact H.le
      have y3 : h0.size ≤ b3 := by rw [g3]; exact (Keep.refl h0 []).1
      have k4 := (Keep.refl h0 []).ext E3
      have f5 : Fld Z h3 b3 "com/example/lachesis/lachesis/BerTag" "tagClass" "I" (.int (0 : Int32)) := D3 (Or.inr (w11 hw)) (ty := .int) (by decide)
      have f6 : Fld Z h3 b3 "com/example/lachesis/lachesis/BerTag" "number" "I" (.int (0 : Int32)) := D3 (Or.inr (w13 hw)) (ty := .int) (by decide)
      refine o_dup H3 rfl at_49 rfl ?_
      refine o_iload H3 rfl at_50 rfl ?_
      refine o_iload H3 rfl at_52 rfl ?_
      refine o_special H3 [(.int ka), (.int kx)] [(.ref b3)] (rm1 l Z a0 hw b3 ka kx h3 n0 H3.le A3 z3 f5 f6 r_ka.1 r_ka.2 r_kx) rfl (w4 hw) (w5 hw) (w3 hw) (w6 hw) (by decide) (lenOf pd1 rfl) rfl rfl (by decide) (Nat.le_of_ble_eq_true rfl) (by decide) (by decide) at_54 rfl ?_
      intro T7 v7 h7 H7 q7
      obtain ⟨rfl, K7, F7_0, F7_1⟩ := q7
      have k8 := k4.trans K7 (allS (Or.inr y3) all0)
      have f9 := A3.keep K7
      show oG p e below s n0 _ _ _ (T7.setTop (mkF m 57 #[.val (.int p1), .val (.int p2), .val (.int p3), .val (.int p4), .val (.int p5), .val (.int ka), .val (.int kx), .val (.int kb), .val (.int ky), .unset, .unset, .unset, .unset] [(.ref b3)]))
      refine o_astore H7 (L' := #[.val (.int p1), .val (.int p2), .val (.int p3), .val (.int p4), .val (.int p5), .val (.int ka), .val (.int kx), .val (.int kb), .val (.int ky), .val (.ref b3), .unset, .unset, .unset]) rfl rfl at_57 rfl ?_
      refine o_new H7 (w1 hw) (w2 hw) (w3 hw) at_59 rfl (by decide) (by decide) ?_
      intro T10 h10 b10 g10 H10 E10 A10 D10
      have ne10_b3 : b3 ≠ b10 := by rw [g10]; exact Nat.ne_of_lt (f9).lt
      have z10 : n0 ≤ b10 := by rw [g10]; exact H7.le
      have y10 : h0.size ≤ b10 := by rw [g10]; exact k8.1
      have k11 := k8.ext E10
      have f12 := f9.ext E10
      have f13 := F7_0.ext E10
      have f14 := F7_1.ext E10
      have f15 : Fld Z h10 b10 "com/example/lachesis/lachesis/BerTag" "tagClass" "I" (.int (0 : Int32)) := D10 (Or.inr (w11 hw)) (ty := .int) (by decide)
      have f16 : Fld Z h10 b10 "com/example/lachesis/lachesis/BerTag" "number" "I" (.int (0 : Int32)) := D10 (Or.inr (w13 hw)) (ty := .int) (by decide)
      refine o_dup H10 rfl at_62 rfl ?_
      refine o_iload H10 rfl at_63 rfl ?_
      refine o_iload H10 rfl at_65 rfl ?_
      refine o_special H10 [(.int kb), (.int ky)] [(.ref b10)] (rm1 l Z a0 hw b10 kb ky h10 n0 H10.le A10 z10 f15 f16 r_kb.1 r_kb.2 r_ky) rfl (w4 hw) (w5 hw) (w3 hw) (w6 hw) (by decide) (lenOf pd1 rfl) rfl rfl (by decide) (Nat.le_of_ble_eq_true rfl) (by decide) (by decide) at_67 rfl ?_
      intro T17 v17 h17 H17 q17
      obtain ⟨rfl, K17, F17_0, F17_1⟩ := q17
      have k18 := k11.trans K17 (allS (Or.inr y10) all0)
      have f19 := f12.keep K17
      have f20 := f13.keep K17 (ninS ne10_b3 nin0)
      have f21 := f14.keep K17 (ninS ne10_b3 nin0)
      have f22 := A10.keep K17
      show oG p e below s n0 _ _ _ (T17.setTop (mkF m 70 #[.val (.int p1), .val (.int p2), .val (.int p3), .val (.int p4), .val (.int p5), .val (.int ka), .val (.int kx), .val (.int kb), .val (.int ky), .val (.ref b3), .unset, .unset, .unset] [(.ref b10)]))
      refine o_astore H17 (L' := #[.val (.int p1), .val (.int p2), .val (.int p3), .val (.int p4), .val (.int p5), .val (.int ka), .val (.int kx), .val (.int kb), .val (.int ky), .val (.ref b3), .val (.ref b10), .unset, .unset]) rfl rfl at_70 rfl ?_
      have j23 : ∀ b24 : Int32, b24 = (if ka = kb ∧ kx = ky then (1 : Int32) else 0) → oG p e below s n0 16 128 (fun v h => v = some (.int 1)) (T17.setTop (mkF m 91 #[.val (.int p1), .val (.int p2), .val (.int p3), .val (.int p4), .val (.int p5), .val (.int ka), .val (.int kx), .val (.int kb), .val (.int ky), .val (.ref b3), .val (.ref b10), .unset, .unset] [(.int b24)])) := by
        intro b24 eb24
        refine o_istore H17 (L' := #[.val (.int p1), .val (.int p2), .val (.int p3), .val (.int p4), .val (.int p5), .val (.int ka), .val (.int kx), .val (.int kb), .val (.int ky), .val (.ref b3), .val (.ref b10), .val (.int b24), .unset]) rfl at_91 rfl ?_
        refine o_aload H17 rfl rfl at_93 rfl ?_
        refine o_aload H17 rfl rfl at_95 rfl ?_
        refine o_virtual H17 [(.ref b10)] [] (rm3_T l Z a0 hw b3 b10 ka kx kb ky h17 n0 H17.le f19 f20 f21 f22 F17_0 F17_1) f19 (w14 hw) (w15 hw) (o_nf (w17 hw)) (w17 hw) (w16 hw) (w3 hw) (w18 hw) (by decide) (lenOf pd3 rfl) rfl rfl (by decide) (Nat.le_of_ble_eq_true rfl) (by decide) (by decide) at_97 rfl ?_
        intro T25 v25 h25 H25 q25
        obtain ⟨rfl, rfl⟩ := q25
        show oG p e below s n0 _ _ _ (T25.setTop (mkF m 100 #[.val (.int p1), .val (.int p2), .val (.int p3), .val (.int p4), .val (.int p5), .val (.int ka), .val (.int kx), .val (.int kb), .val (.int ky), .val (.ref b3), .val (.ref b10), .val (.int b24), .unset] [(.int (own_eq ka kx kb ky))]))
        refine o_iload H25 rfl at_100 rfl ?_
        refine o_icmp_f H25 at_102 (XT.ii_ne_f (by rw [own_eqs]; exact eb24.symm)) rfl ?_
        refine o_iconst H25 (1 : Int32) rfl at_105 rfl ?_
        refine o_goto H25 at_106 (pt := 110) (by decide) (by decide) ?_
        refine o_istore H25 (L' := #[.val (.int p1), .val (.int p2), .val (.int p3), .val (.int p4), .val (.int p5), .val (.int ka), .val (.int kx), .val (.int kb), .val (.int ky), .val (.ref b3), .val (.ref b10), .val (.int b24), .val (.int (1 : Int32))]) rfl at_110 rfl ?_
        refine o_iload H25 rfl at_112 rfl ?_
        refine o_if_f H25 at_114 (by decide) rfl ?_
        refine o_aload H25 rfl rfl at_117 rfl ?_
        refine o_aload H25 rfl rfl at_119 rfl ?_
        refine o_virtual H25 [(.ref b3)] [] (rm3_T l Z a0 hw b10 b3 kb ky ka kx h17 n0 H25.le f22 F17_0 F17_1 f19 f20 f21) f22 (w14 hw) (w15 hw) (o_nf (w17 hw)) (w17 hw) (w16 hw) (w3 hw) (w18 hw) (by decide) (lenOf pd3 rfl) rfl rfl (by decide) (Nat.le_of_ble_eq_true rfl) (by decide) (by decide) at_121 rfl ?_
        intro T26 v26 h26 H26 q26
        obtain ⟨rfl, rfl⟩ := q26
        show oG p e below s n0 _ _ _ (T26.setTop (mkF m 124 #[.val (.int p1), .val (.int p2), .val (.int p3), .val (.int p4), .val (.int p5), .val (.int ka), .val (.int kx), .val (.int kb), .val (.int ky), .val (.ref b3), .val (.ref b10), .val (.int b24), .val (.int (1 : Int32))] [(.int (own_eq kb ky ka kx))]))
        refine o_iload H26 rfl at_124 rfl ?_
        refine o_icmp_f H26 at_126 (XT.ii_ne_f (by rw [own_eqt]; exact eb24.symm)) rfl ?_
        refine o_iconst H26 (1 : Int32) rfl at_129 rfl ?_
        refine o_goto H26 at_130 (pt := 134) (by decide) (by decide) ?_
        refine o_istore H26 (L' := #[.val (.int p1), .val (.int p2), .val (.int p3), .val (.int p4), .val (.int p5), .val (.int ka), .val (.int kx), .val (.int kb), .val (.int ky), .val (.ref b3), .val (.ref b10), .val (.int b24), .val (.int (1 : Int32))]) rfl at_134 rfl ?_
        refine o_iload H26 rfl at_136 rfl ?_
        refine o_if_f H26 at_138 (by decide) rfl ?_
        refine o_aload H26 rfl rfl at_141 rfl ?_
        refine o_aload H26 rfl rfl at_143 rfl ?_
        refine o_virtual H26 [(.ref b3)] [] ((rm3_T l Z a0 hw b3 b3 ka kx ka kx h17 n0 H26.le f19 f20 f21 f19 f20 f21).mono (fun v h q => (⟨by rw [q.1, own_eqs, if_pos ⟨rfl, rfl⟩], q.2⟩ : v = some (.int 1) ∧ h17 = h))) f19 (w14 hw) (w15 hw) (o_nf (w17 hw)) (w17 hw) (w16 hw) (w3 hw) (w18 hw) (by decide) (lenOf pd3 rfl) rfl rfl (by decide) (Nat.le_of_ble_eq_true rfl) (by decide) (by decide) at_145 rfl ?_
        intro T27 v27 h27 H27 q27
        obtain ⟨rfl, rfl⟩ := q27
        show oG p e below s n0 _ _ _ (T27.setTop (mkF m 148 #[.val (.int p1), .val (.int p2), .val (.int p3), .val (.int p4), .val (.int p5), .val (.int ka), .val (.int kx), .val (.int kb), .val (.int ky), .val (.ref b3), .val (.ref b10), .val (.int b24), .val (.int (1 : Int32))] [(.int (1 : Int32))]))
        refine o_if_f H27 at_148 (by decide) rfl ?_
        refine o_iconst H27 (1 : Int32) rfl at_151 rfl ?_
        refine o_goto H27 at_152 (pt := 156) (by decide) (by decide) ?_
        refine o_istore H27 (L' := #[.val (.int p1), .val (.int p2), .val (.int p3), .val (.int p4), .val (.int p5), .val (.int ka), .val (.int kx), .val (.int kb), .val (.int ky), .val (.ref b3), .val (.ref b10), .val (.int b24), .val (.int (1 : Int32))]) rfl at_156 rfl ?_
        refine o_iload H27 rfl at_158 rfl ?_
        refine o_if_f H27 at_160 (by decide) rfl ?_
        refine o_aload H27 rfl rfl at_163 rfl ?_
        refine o_aconst_null H27 at_165 rfl ?_
        refine o_virtual H27 [.null] [] (rm3_N l Z a0 hw b3 h17 n0 H27.le) f19 (w14 hw) (w15 hw) (o_nf (w17 hw)) (w17 hw) (w16 hw) (w3 hw) (w18 hw) (by decide) (lenOf pd3 rfl) rfl rfl (by decide) (Nat.le_of_ble_eq_true rfl) (by decide) (by decide) at_166 rfl ?_
        intro T28 v28 h28 H28 q28
        obtain ⟨rfl, rfl⟩ := q28
        show oG p e below s n0 _ _ _ (T28.setTop (mkF m 169 #[.val (.int p1), .val (.int p2), .val (.int p3), .val (.int p4), .val (.int p5), .val (.int ka), .val (.int kx), .val (.int kb), .val (.int ky), .val (.ref b3), .val (.ref b10), .val (.int b24), .val (.int (1 : Int32))] [(.int (0 : Int32))]))
        refine o_if_f H28 at_169 (by decide) rfl ?_
        refine o_iconst H28 (1 : Int32) rfl at_172 rfl ?_
        refine o_goto H28 at_173 (pt := 177) (by decide) (by decide) ?_
        refine o_istore H28 (L' := #[.val (.int p1), .val (.int p2), .val (.int p3), .val (.int p4), .val (.int p5), .val (.int ka), .val (.int kx), .val (.int kb), .val (.int ky), .val (.ref b3), .val (.ref b10), .val (.int b24), .val (.int (1 : Int32))]) rfl at_177 rfl ?_
        refine o_iload H28 rfl at_179 rfl ?_
        refine o_if_f H28 at_181 (by decide) rfl ?_
        refine o_aload H28 rfl rfl at_184 rfl ?_
        refine o_iload H28 rfl at_186 rfl ?_
        refine o_static H28 [(.int kx)] [(.ref b3)] (rm4 l Z a0 hw kx ca cl h17 n0 H28.le (S_high.ext (o_kext k18)) (S_cache.ext (o_kext k18)) AC BX (o_etrans E0 (o_kext k18))) (w21 hw) (w22 hw) (w23 hw) (w24 hw) (by decide) (lenOf pd4 rfl) rfl rfl (by decide) (Nat.le_of_ble_eq_true rfl) (by decide) (by decide) at_188 rfl ?_
        intro T29 v29 h29 H29 q29
        obtain ⟨r29, rfl, K29, E29⟩ := q29
        have k30 := k18.trans K29 all0
        have f31 := f19.keep K29
        have f32 := f20.keep K29 nin0
        have f33 := f21.keep K29 nin0
        have f34 := f22.keep K29
        have f35 := F17_0.keep K29 nin0
        have f36 := F17_1.keep K29 nin0
        show oG p e below s n0 _ _ _ (T29.setTop (mkF m 191 #[.val (.int p1), .val (.int p2), .val (.int p3), .val (.int p4), .val (.int p5), .val (.int ka), .val (.int kx), .val (.int kb), .val (.int ky), .val (.ref b3), .val (.ref b10), .val (.int b24), .val (.int (1 : Int32))] [(.ref r29), (.ref b3)]))
        refine o_virtual H29 [(.ref r29)] [] (rm3_I l Z a0 hw b3 r29 h29 n0 H29.le E29) f31 (w14 hw) (w15 hw) (o_nf (w17 hw)) (w17 hw) (w16 hw) (w3 hw) (w18 hw) (by decide) (lenOf pd3 rfl) rfl rfl (by decide) (Nat.le_of_ble_eq_true rfl) (by decide) (by decide) at_191 rfl ?_
        intro T37 v37 h37 H37 q37
        obtain ⟨rfl, rfl⟩ := q37
        show oG p e below s n0 _ _ _ (T37.setTop (mkF m 194 #[.val (.int p1), .val (.int p2), .val (.int p3), .val (.int p4), .val (.int p5), .val (.int ka), .val (.int kx), .val (.int kb), .val (.int ky), .val (.ref b3), .val (.ref b10), .val (.int b24), .val (.int (1 : Int32))] [(.int (0 : Int32))]))
        refine o_if_f H37 at_194 (by decide) rfl ?_
        refine o_iconst H37 (1 : Int32) rfl at_197 rfl ?_
        refine o_goto H37 at_198 (pt := 202) (by decide) (by decide) ?_
        refine o_istore H37 (L' := #[.val (.int p1), .val (.int p2), .val (.int p3), .val (.int p4), .val (.int p5), .val (.int ka), .val (.int kx), .val (.int kb), .val (.int ky), .val (.ref b3), .val (.ref b10), .val (.int b24), .val (.int (1 : Int32))]) rfl at_202 rfl ?_
        refine o_iload H37 rfl at_204 rfl ?_
        exact o_nreturn H37 .boolean rfl (by simp) at_206 (by decide) (by decide) rfl
      refine o_iload H17 rfl at_72 rfl ?_
      refine o_iload H17 rfl at_74 rfl ?_
      refine o_icmp_ne H17 at_76 (pt := 90) (by decide) (by decide) rfl ?_ ?_
      · intro c76_38
        refine o_iconst H17 (0 : Int32) rfl at_90 rfl ?_
        exact j23 (0 : Int32) (by first | (simp [c76_38]; done) | (exact absurd rfl c76_38) | simp_all)
      · intro c76_38
        refine o_iload H17 rfl at_79 rfl ?_
        refine o_iload H17 rfl at_81 rfl ?_
        refine o_icmp_ne H17 at_83 (pt := 90) (by decide) (by decide) rfl ?_ ?_
        · intro c83_39
          refine o_iconst H17 (0 : Int32) rfl at_90 rfl ?_
          exact j23 (0 : Int32) (by first | (simp [c76_38, c83_39]; done) | (exact absurd rfl c83_39) | simp_all)
        · intro c83_39
          refine o_iconst H17 (1 : Int32) rfl at_86 rfl ?_
          refine o_goto H17 at_87 (pt := 91) (by decide) (by decide) ?_
          exact j23 (1 : Int32) (by first | (simp [c76_38, c83_39]; done) | (exact absurd rfl c83_39) | simp_all)
    · intro c32_2
      refine o_iload H rfl at_35 rfl ?_
      refine o_goto H at_37 (pt := 44) (by decide) (by decide) ?_
      refine o_istore H (L' := #[.val (.int p1), .val (.int p2), .val (.int p3), .val (.int p4), .val (.int p5), .val (.int (p1 &&& (3 : Int32))), .val (.int (p2 &&& (2147483647 : Int32))), .val (.int (p3 &&& (3 : Int32))), .val (.int (p2 &&& (2147483647 : Int32))), .unset, .unset, .unset, .unset]) rfl at_44 rfl ?_
      obtain ⟨ka, e_ka⟩ : ∃ z : Int32, z = (p1 &&& (3 : Int32)) := ⟨_, rfl⟩
      rw [← e_ka]
      have r_ka := own_r3 p1
      rw [← e_ka] at r_ka
      obtain ⟨kx, e_kx⟩ : ∃ z : Int32, z = (p2 &&& (2147483647 : Int32)) := ⟨_, rfl⟩
      rw [← e_kx]
      have r_kx := own_rM p2
      rw [← e_kx] at r_kx
      obtain ⟨kb, e_kb⟩ : ∃ z : Int32, z = (p3 &&& (3 : Int32)) := ⟨_, rfl⟩
      rw [← e_kb]
      have r_kb := own_r3 p3
      rw [← e_kb] at r_kb
      refine o_new H (w1 hw) (w2 hw) (w3 hw) at_46 rfl (by decide) (by decide) ?_
      intro T40 h40 b40 g40 H40 E40 A40 D40
      have z40 : n0 ≤ b40 := by rw [g40]; exact H.le
      have y40 : h0.size ≤ b40 := by rw [g40]; exact (Keep.refl h0 []).1
      have k41 := (Keep.refl h0 []).ext E40
      have f42 : Fld Z h40 b40 "com/example/lachesis/lachesis/BerTag" "tagClass" "I" (.int (0 : Int32)) := D40 (Or.inr (w11 hw)) (ty := .int) (by decide)
      have f43 : Fld Z h40 b40 "com/example/lachesis/lachesis/BerTag" "number" "I" (.int (0 : Int32)) := D40 (Or.inr (w13 hw)) (ty := .int) (by decide)
      refine o_dup H40 rfl at_49 rfl ?_
      refine o_iload H40 rfl at_50 rfl ?_
      refine o_iload H40 rfl at_52 rfl ?_
      refine o_special H40 [(.int ka), (.int kx)] [(.ref b40)] (rm1 l Z a0 hw b40 ka kx h40 n0 H40.le A40 z40 f42 f43 r_ka.1 r_ka.2 r_kx) rfl (w4 hw) (w5 hw) (w3 hw) (w6 hw) (by decide) (lenOf pd1 rfl) rfl rfl (by decide) (Nat.le_of_ble_eq_true rfl) (by decide) (by decide) at_54 rfl ?_
      intro T44 v44 h44 H44 q44
      obtain ⟨rfl, K44, F44_0, F44_1⟩ := q44
      have k45 := k41.trans K44 (allS (Or.inr y40) all0)
      have f46 := A40.keep K44
      show oG p e below s n0 _ _ _ (T44.setTop (mkF m 57 #[.val (.int p1), .val (.int p2), .val (.int p3), .val (.int p4), .val (.int p5), .val (.int ka), .val (.int kx), .val (.int kb), .val (.int kx), .unset, .unset, .unset, .unset] [(.ref b40)]))
      refine o_astore H44 (L' := #[.val (.int p1), .val (.int p2), .val (.int p3), .val (.int p4), .val (.int p5), .val (.int ka), .val (.int kx), .val (.int kb), .val (.int kx), .val (.ref b40), .unset, .unset, .unset]) rfl rfl at_57 rfl ?_
      refine o_new H44 (w1 hw) (w2 hw) (w3 hw) at_59 rfl (by decide) (by decide) ?_
      intro T47 h47 b47 g47 H47 E47 A47 D47
      have ne47_b40 : b40 ≠ b47 := by rw [g47]; exact Nat.ne_of_lt (f46).lt
      have z47 : n0 ≤ b47 := by rw [g47]; exact H44.le
      have y47 : h0.size ≤ b47 := by rw [g47]; exact k45.1
      have k48 := k45.ext E47
      have f49 := f46.ext E47
      have f50 := F44_0.ext E47
      have f51 := F44_1.ext E47
      have f52 : Fld Z h47 b47 "com/example/lachesis/lachesis/BerTag" "tagClass" "I" (.int (0 : Int32)) := D47 (Or.inr (w11 hw)) (ty := .int) (by decide)
      have f53 : Fld Z h47 b47 "com/example/lachesis/lachesis/BerTag" "number" "I" (.int (0 : Int32)) := D47 (Or.inr (w13 hw)) (ty := .int) (by decide)
      refine o_dup H47 rfl at_62 rfl ?_
      refine o_iload H47 rfl at_63 rfl ?_
      refine o_iload H47 rfl at_65 rfl ?_
      refine o_special H47 [(.int kb), (.int kx)] [(.ref b47)] (rm1 l Z a0 hw b47 kb kx h47 n0 H47.le A47 z47 f52 f53 r_kb.1 r_kb.2 r_kx) rfl (w4 hw) (w5 hw) (w3 hw) (w6 hw) (by decide) (lenOf pd1 rfl) rfl rfl (by decide) (Nat.le_of_ble_eq_true rfl) (by decide) (by decide) at_67 rfl ?_
      intro T54 v54 h54 H54 q54
      obtain ⟨rfl, K54, F54_0, F54_1⟩ := q54
      have k55 := k48.trans K54 (allS (Or.inr y47) all0)
      have f56 := f49.keep K54
      have f57 := f50.keep K54 (ninS ne47_b40 nin0)
      have f58 := f51.keep K54 (ninS ne47_b40 nin0)
      have f59 := A47.keep K54
      show oG p e below s n0 _ _ _ (T54.setTop (mkF m 70 #[.val (.int p1), .val (.int p2), .val (.int p3), .val (.int p4), .val (.int p5), .val (.int ka), .val (.int kx), .val (.int kb), .val (.int kx), .val (.ref b40), .unset, .unset, .unset] [(.ref b47)]))
      refine o_astore H54 (L' := #[.val (.int p1), .val (.int p2), .val (.int p3), .val (.int p4), .val (.int p5), .val (.int ka), .val (.int kx), .val (.int kb), .val (.int kx), .val (.ref b40), .val (.ref b47), .unset, .unset]) rfl rfl at_70 rfl ?_
      have j60 : ∀ b61 : Int32, b61 = (if ka = kb ∧ kx = kx then (1 : Int32) else 0) → oG p e below s n0 16 128 (fun v h => v = some (.int 1)) (T54.setTop (mkF m 91 #[.val (.int p1), .val (.int p2), .val (.int p3), .val (.int p4), .val (.int p5), .val (.int ka), .val (.int kx), .val (.int kb), .val (.int kx), .val (.ref b40), .val (.ref b47), .unset, .unset] [(.int b61)])) := by
        intro b61 eb61
        refine o_istore H54 (L' := #[.val (.int p1), .val (.int p2), .val (.int p3), .val (.int p4), .val (.int p5), .val (.int ka), .val (.int kx), .val (.int kb), .val (.int kx), .val (.ref b40), .val (.ref b47), .val (.int b61), .unset]) rfl at_91 rfl ?_
        refine o_aload H54 rfl rfl at_93 rfl ?_
        refine o_aload H54 rfl rfl at_95 rfl ?_
        refine o_virtual H54 [(.ref b47)] [] (rm3_T l Z a0 hw b40 b47 ka kx kb kx h54 n0 H54.le f56 f57 f58 f59 F54_0 F54_1) f56 (w14 hw) (w15 hw) (o_nf (w17 hw)) (w17 hw) (w16 hw) (w3 hw) (w18 hw) (by decide) (lenOf pd3 rfl) rfl rfl (by decide) (Nat.le_of_ble_eq_true rfl) (by decide) (by decide) at_97 rfl ?_
        intro T62 v62 h62 H62 q62
        obtain ⟨rfl, rfl⟩ := q62
        show oG p e below s n0 _ _ _ (T62.setTop (mkF m 100 #[.val (.int p1), .val (.int p2), .val (.int p3), .val (.int p4), .val (.int p5), .val (.int ka), .val (.int kx), .val (.int kb), .val (.int kx), .val (.ref b40), .val (.ref b47), .val (.int b61), .unset] [(.int (own_eq ka kx kb kx))]))
        refine o_iload H62 rfl at_100 rfl ?_
        refine o_icmp_f H62 at_102 (XT.ii_ne_f (by rw [own_eqs]; exact eb61.symm)) rfl ?_
        refine o_iconst H62 (1 : Int32) rfl at_105 rfl ?_
        refine o_goto H62 at_106 (pt := 110) (by decide) (by decide) ?_
        refine o_istore H62 (L' := #[.val (.int p1), .val (.int p2), .val (.int p3), .val (.int p4), .val (.int p5), .val (.int ka), .val (.int kx), .val (.int kb), .val (.int kx), .val (.ref b40), .val (.ref b47), .val (.int b61), .val (.int (1 : Int32))]) rfl at_110 rfl ?_
        refine o_iload H62 rfl at_112 rfl ?_
        refine o_if_f H62 at_114 (by decide) rfl ?_
        refine o_aload H62 rfl rfl at_117 rfl ?_
        refine o_aload H62 rfl rfl at_119 rfl ?_
        refine o_virtual H62 [(.ref b40)] [] (rm3_T l Z a0 hw b47 b40 kb kx ka kx h54 n0 H62.le f59 F54_0 F54_1 f56 f57 f58) f59 (w14 hw) (w15 hw) (o_nf (w17 hw)) (w17 hw) (w16 hw) (w3 hw) (w18 hw) (by decide) (lenOf pd3 rfl) rfl rfl (by decide) (Nat.le_of_ble_eq_true rfl) (by decide) (by decide) at_121 rfl ?_
        intro T63 v63 h63 H63 q63
        obtain ⟨rfl, rfl⟩ := q63
        show oG p e below s n0 _ _ _ (T63.setTop (mkF m 124 #[.val (.int p1), .val (.int p2), .val (.int p3), .val (.int p4), .val (.int p5), .val (.int ka), .val (.int kx), .val (.int kb), .val (.int kx), .val (.ref b40), .val (.ref b47), .val (.int b61), .val (.int (1 : Int32))] [(.int (own_eq kb kx ka kx))]))
        refine o_iload H63 rfl at_124 rfl ?_
        refine o_icmp_f H63 at_126 (XT.ii_ne_f (by rw [own_eqt]; exact eb61.symm)) rfl ?_
        refine o_iconst H63 (1 : Int32) rfl at_129 rfl ?_
        refine o_goto H63 at_130 (pt := 134) (by decide) (by decide) ?_
        refine o_istore H63 (L' := #[.val (.int p1), .val (.int p2), .val (.int p3), .val (.int p4), .val (.int p5), .val (.int ka), .val (.int kx), .val (.int kb), .val (.int kx), .val (.ref b40), .val (.ref b47), .val (.int b61), .val (.int (1 : Int32))]) rfl at_134 rfl ?_
        refine o_iload H63 rfl at_136 rfl ?_
        refine o_if_f H63 at_138 (by decide) rfl ?_
        refine o_aload H63 rfl rfl at_141 rfl ?_
        refine o_aload H63 rfl rfl at_143 rfl ?_
        refine o_virtual H63 [(.ref b40)] [] ((rm3_T l Z a0 hw b40 b40 ka kx ka kx h54 n0 H63.le f56 f57 f58 f56 f57 f58).mono (fun v h q => (⟨by rw [q.1, own_eqs, if_pos ⟨rfl, rfl⟩], q.2⟩ : v = some (.int 1) ∧ h54 = h))) f56 (w14 hw) (w15 hw) (o_nf (w17 hw)) (w17 hw) (w16 hw) (w3 hw) (w18 hw) (by decide) (lenOf pd3 rfl) rfl rfl (by decide) (Nat.le_of_ble_eq_true rfl) (by decide) (by decide) at_145 rfl ?_
        intro T64 v64 h64 H64 q64
        obtain ⟨rfl, rfl⟩ := q64
        show oG p e below s n0 _ _ _ (T64.setTop (mkF m 148 #[.val (.int p1), .val (.int p2), .val (.int p3), .val (.int p4), .val (.int p5), .val (.int ka), .val (.int kx), .val (.int kb), .val (.int kx), .val (.ref b40), .val (.ref b47), .val (.int b61), .val (.int (1 : Int32))] [(.int (1 : Int32))]))
        refine o_if_f H64 at_148 (by decide) rfl ?_
        refine o_iconst H64 (1 : Int32) rfl at_151 rfl ?_
        refine o_goto H64 at_152 (pt := 156) (by decide) (by decide) ?_
        refine o_istore H64 (L' := #[.val (.int p1), .val (.int p2), .val (.int p3), .val (.int p4), .val (.int p5), .val (.int ka), .val (.int kx), .val (.int kb), .val (.int kx), .val (.ref b40), .val (.ref b47), .val (.int b61), .val (.int (1 : Int32))]) rfl at_156 rfl ?_
        refine o_iload H64 rfl at_158 rfl ?_
        refine o_if_f H64 at_160 (by decide) rfl ?_
        refine o_aload H64 rfl rfl at_163 rfl ?_
        refine o_aconst_null H64 at_165 rfl ?_
        refine o_virtual H64 [.null] [] (rm3_N l Z a0 hw b40 h54 n0 H64.le) f56 (w14 hw) (w15 hw) (o_nf (w17 hw)) (w17 hw) (w16 hw) (w3 hw) (w18 hw) (by decide) (lenOf pd3 rfl) rfl rfl (by decide) (Nat.le_of_ble_eq_true rfl) (by decide) (by decide) at_166 rfl ?_
        intro T65 v65 h65 H65 q65
        obtain ⟨rfl, rfl⟩ := q65
        show oG p e below s n0 _ _ _ (T65.setTop (mkF m 169 #[.val (.int p1), .val (.int p2), .val (.int p3), .val (.int p4), .val (.int p5), .val (.int ka), .val (.int kx), .val (.int kb), .val (.int kx), .val (.ref b40), .val (.ref b47), .val (.int b61), .val (.int (1 : Int32))] [(.int (0 : Int32))]))
        refine o_if_f H65 at_169 (by decide) rfl ?_
        refine o_iconst H65 (1 : Int32) rfl at_172 rfl ?_
        refine o_goto H65 at_173 (pt := 177) (by decide) (by decide) ?_
        refine o_istore H65 (L' := #[.val (.int p1), .val (.int p2), .val (.int p3), .val (.int p4), .val (.int p5), .val (.int ka), .val (.int kx), .val (.int kb), .val (.int kx), .val (.ref b40), .val (.ref b47), .val (.int b61), .val (.int (1 : Int32))]) rfl at_177 rfl ?_
        refine o_iload H65 rfl at_179 rfl ?_
        refine o_if_f H65 at_181 (by decide) rfl ?_
        refine o_aload H65 rfl rfl at_184 rfl ?_
        refine o_iload H65 rfl at_186 rfl ?_
        refine o_static H65 [(.int kx)] [(.ref b40)] (rm4 l Z a0 hw kx ca cl h54 n0 H65.le (S_high.ext (o_kext k55)) (S_cache.ext (o_kext k55)) AC BX (o_etrans E0 (o_kext k55))) (w21 hw) (w22 hw) (w23 hw) (w24 hw) (by decide) (lenOf pd4 rfl) rfl rfl (by decide) (Nat.le_of_ble_eq_true rfl) (by decide) (by decide) at_188 rfl ?_
        intro T66 v66 h66 H66 q66
        obtain ⟨r66, rfl, K66, E66⟩ := q66
        have k67 := k55.trans K66 all0
        have f68 := f56.keep K66
        have f69 := f57.keep K66 nin0
        have f70 := f58.keep K66 nin0
        have f71 := f59.keep K66
        have f72 := F54_0.keep K66 nin0
        have f73 := F54_1.keep K66 nin0
        show oG p e below s n0 _ _ _ (T66.setTop (mkF m 191 #[.val (.int p1), .val (.int p2), .val (.int p3), .val (.int p4), .val (.int p5), .val (.int ka), .val (.int kx), .val (.int kb), .val (.int kx), .val (.ref b40), .val (.ref b47), .val (.int b61), .val (.int (1 : Int32))] [(.ref r66), (.ref b40)]))
        refine o_virtual H66 [(.ref r66)] [] (rm3_I l Z a0 hw b40 r66 h66 n0 H66.le E66) f68 (w14 hw) (w15 hw) (o_nf (w17 hw)) (w17 hw) (w16 hw) (w3 hw) (w18 hw) (by decide) (lenOf pd3 rfl) rfl rfl (by decide) (Nat.le_of_ble_eq_true rfl) (by decide) (by decide) at_191 rfl ?_
        intro T74 v74 h74 H74 q74
        obtain ⟨rfl, rfl⟩ := q74
        show oG p e below s n0 _ _ _ (T74.setTop (mkF m 194 #[.val (.int p1), .val (.int p2), .val (.int p3), .val (.int p4), .val (.int p5), .val (.int ka), .val (.int kx), .val (.int kb), .val (.int kx), .val (.ref b40), .val (.ref b47), .val (.int b61), .val (.int (1 : Int32))] [(.int (0 : Int32))]))
        refine o_if_f H74 at_194 (by decide) rfl ?_
        refine o_iconst H74 (1 : Int32) rfl at_197 rfl ?_
        refine o_goto H74 at_198 (pt := 202) (by decide) (by decide) ?_
        refine o_istore H74 (L' := #[.val (.int p1), .val (.int p2), .val (.int p3), .val (.int p4), .val (.int p5), .val (.int ka), .val (.int kx), .val (.int kb), .val (.int kx), .val (.ref b40), .val (.ref b47), .val (.int b61), .val (.int (1 : Int32))]) rfl at_202 rfl ?_
        refine o_iload H74 rfl at_204 rfl ?_
        exact o_nreturn H74 .boolean rfl (by simp) at_206 (by decide) (by decide) rfl
      refine o_iload H54 rfl at_72 rfl ?_
      refine o_iload H54 rfl at_74 rfl ?_
      refine o_icmp_ne H54 at_76 (pt := 90) (by decide) (by decide) rfl ?_ ?_
      · intro c76_75
        refine o_iconst H54 (0 : Int32) rfl at_90 rfl ?_
        exact j60 (0 : Int32) (by first | (simp [c76_75]; done) | (exact absurd rfl c76_75) | simp_all)
      · intro c76_75
        refine o_iload H54 rfl at_79 rfl ?_
        refine o_iload H54 rfl at_81 rfl ?_
        refine o_icmp_ne H54 at_83 (pt := 90) (by decide) (by decide) rfl ?_ ?_
        · intro c83_76
          refine o_iconst H54 (0 : Int32) rfl at_90 rfl ?_
          exact j60 (0 : Int32) (by first | (simp [c76_75, c83_76]; done) | (exact absurd rfl c83_76) | simp_all)
        · intro c83_76
          refine o_iconst H54 (1 : Int32) rfl at_86 rfl ?_
          refine o_goto H54 at_87 (pt := 91) (by decide) (by decide) ?_
          exact j60 (1 : Int32) (by first | (simp [c76_75, c83_76]; done) | (exact absurd rfl c83_76) | simp_all)
  · intro c15_1
    refine o_iload H rfl at_18 rfl ?_
    refine o_goto H at_20 (pt := 26) (by decide) (by decide) ?_
    refine o_istore H (L' := #[.val (.int p1), .val (.int p2), .val (.int p3), .val (.int p4), .val (.int p5), .val (.int (p1 &&& (3 : Int32))), .val (.int (p2 &&& (2147483647 : Int32))), .val (.int (p1 &&& (3 : Int32))), .unset, .unset, .unset, .unset, .unset]) rfl at_26 rfl ?_
    refine o_iload H rfl at_28 rfl ?_
    refine o_iconst H (2 : Int32) rfl at_30 rfl ?_
    refine o_iand H at_31 rfl ?_
    refine o_if_eq H at_32 (pt := 40) (by decide) (by decide) rfl ?_ ?_
    · intro c32_77
      refine o_iloadN H rfl at_40 rfl ?_
      refine o_ldcI H (2147483647 : Int32) (w0 hw) at_41 rfl ?_
      refine o_iand H at_43 rfl ?_
      refine o_istore H (L' := #[.val (.int p1), .val (.int p2), .val (.int p3), .val (.int p4), .val (.int p5), .val (.int (p1 &&& (3 : Int32))), .val (.int (p2 &&& (2147483647 : Int32))), .val (.int (p1 &&& (3 : Int32))), .val (.int (p4 &&& (2147483647 : Int32))), .unset, .unset, .unset, .unset]) rfl at_44 rfl ?_
      obtain ⟨ka, e_ka⟩ : ∃ z : Int32, z = (p1 &&& (3 : Int32)) := ⟨_, rfl⟩
      rw [← e_ka]
      have r_ka := own_r3 p1
      rw [← e_ka] at r_ka
      obtain ⟨kx, e_kx⟩ : ∃ z : Int32, z = (p2 &&& (2147483647 : Int32)) := ⟨_, rfl⟩
      rw [← e_kx]
      have r_kx := own_rM p2
      rw [← e_kx] at r_kx
      obtain ⟨ky, e_ky⟩ : ∃ z : Int32, z = (p4 &&& (2147483647 : Int32)) := ⟨_, rfl⟩
      rw [← e_ky]
      have r_ky := own_rM p4
      rw [← e_ky] at r_ky
      refine o_new H (w1 hw) (w2 hw) (w3 hw) at_46 rfl (by decide) (by decide) ?_
      intro T78 h78 b78 g78 H78 E78 A78 D78
      have z78 : n0 ≤ b78 := by rw [g78]; exact H.le
      have y78 : h0.size ≤ b78 := by rw [g78]; exact (Keep.refl h0 []).1
      have k79 := (Keep.refl h0 []).ext E78
      have f80 : Fld Z h78 b78 "com/example/lachesis/lachesis/BerTag" "tagClass" "I" (.int (0 : Int32)) := D78 (Or.inr (w11 hw)) (ty := .int) (by decide)
      have f81 : Fld Z h78 b78 "com/example/lachesis/lachesis/BerTag" "number" "I" (.int (0 : Int32)) := D78 (Or.inr (w13 hw)) (ty := .int) (by decide)
      refine o_dup H78 rfl at_49 rfl ?_
      refine o_iload H78 rfl at_50 rfl ?_
      refine o_iload H78 rfl at_52 rfl ?_
      refine o_special H78 [(.int ka), (.int kx)] [(.ref b78)] (rm1 l Z a0 hw b78 ka kx h78 n0 H78.le A78 z78 f80 f81 r_ka.1 r_ka.2 r_kx) rfl (w4 hw) (w5 hw) (w3 hw) (w6 hw) (by decide) (lenOf pd1 rfl) rfl rfl (by decide) (Nat.le_of_ble_eq_true rfl) (by decide) (by decide) at_54 rfl ?_
      intro T82 v82 h82 H82 q82
      obtain ⟨rfl, K82, F82_0, F82_1⟩ := q82
      have k83 := k79.trans K82 (allS (Or.inr y78) all0)
      have f84 := A78.keep K82
      show oG p e below s n0 _ _ _ (T82.setTop (mkF m 57 #[.val (.int p1), .val (.int p2), .val (.int p3), .val (.int p4), .val (.int p5), .val (.int ka), .val (.int kx), .val (.int ka), .val (.int ky), .unset, .unset, .unset, .unset] [(.ref b78)]))
      refine o_astore H82 (L' := #[.val (.int p1), .val (.int p2), .val (.int p3), .val (.int p4), .val (.int p5), .val (.int ka), .val (.int kx), .val (.int ka), .val (.int ky), .val (.ref b78), .unset, .unset, .unset]) rfl rfl at_57 rfl ?_
      refine o_new H82 (w1 hw) (w2 hw) (w3 hw) at_59 rfl (by decide) (by decide) ?_
      intro T85 h85 b85 g85 H85 E85 A85 D85
      have ne85_b78 : b78 ≠ b85 := by rw [g85]; exact Nat.ne_of_lt (f84).lt
      have z85 : n0 ≤ b85 := by rw [g85]; exact H82.le
      have y85 : h0.size ≤ b85 := by rw [g85]; exact k83.1
      have k86 := k83.ext E85
      have f87 := f84.ext E85
      have f88 := F82_0.ext E85
      have f89 := F82_1.ext E85
      have f90 : Fld Z h85 b85 "com/example/lachesis/lachesis/BerTag" "tagClass" "I" (.int (0 : Int32)) := D85 (Or.inr (w11 hw)) (ty := .int) (by decide)
      have f91 : Fld Z h85 b85 "com/example/lachesis/lachesis/BerTag" "number" "I" (.int (0 : Int32)) := D85 (Or.inr (w13 hw)) (ty := .int) (by decide)
      refine o_dup H85 rfl at_62 rfl ?_
      refine o_iload H85 rfl at_63 rfl ?_
      refine o_iload H85 rfl at_65 rfl ?_
      refine o_special H85 [(.int ka), (.int ky)] [(.ref b85)] (rm1 l Z a0 hw b85 ka ky h85 n0 H85.le A85 z85 f90 f91 r_ka.1 r_ka.2 r_ky) rfl (w4 hw) (w5 hw) (w3 hw) (w6 hw) (by decide) (lenOf pd1 rfl) rfl rfl (by decide) (Nat.le_of_ble_eq_true rfl) (by decide) (by decide) at_67 rfl ?_
      intro T92 v92 h92 H92 q92
      obtain ⟨rfl, K92, F92_0, F92_1⟩ := q92
      have k93 := k86.trans K92 (allS (Or.inr y85) all0)
      have f94 := f87.keep K92
      have f95 := f88.keep K92 (ninS ne85_b78 nin0)
      have f96 := f89.keep K92 (ninS ne85_b78 nin0)
      have f97 := A85.keep K92
      show oG p e below s n0 _ _ _ (T92.setTop (mkF m 70 #[.val (.int p1), .val (.int p2), .val (.int p3), .val (.int p4), .val (.int p5), .val (.int ka), .val (.int kx), .val (.int ka), .val (.int ky), .val (.ref b78), .unset, .unset, .unset] [(.ref b85)]))
      refine o_astore H92 (L' := #[.val (.int p1), .val (.int p2), .val (.int p3), .val (.int p4), .val (.int p5), .val (.int ka), .val (.int kx), .val (.int ka), .val (.int ky), .val (.ref b78), .val (.ref b85), .unset, .unset]) rfl rfl at_70 rfl ?_
      have j98 : ∀ b99 : Int32, b99 = (if ka = ka ∧ kx = ky then (1 : Int32) else 0) → oG p e below s n0 16 128 (fun v h => v = some (.int 1)) (T92.setTop (mkF m 91 #[.val (.int p1), .val (.int p2), .val (.int p3), .val (.int p4), .val (.int p5), .val (.int ka), .val (.int kx), .val (.int ka), .val (.int ky), .val (.ref b78), .val (.ref b85), .unset, .unset] [(.int b99)])) := by
        intro b99 eb99
        refine o_istore H92 (L' := #[.val (.int p1), .val (.int p2), .val (.int p3), .val (.int p4), .val (.int p5), .val (.int ka), .val (.int kx), .val (.int ka), .val (.int ky), .val (.ref b78), .val (.ref b85), .val (.int b99), .unset]) rfl at_91 rfl ?_
        refine o_aload H92 rfl rfl at_93 rfl ?_
        refine o_aload H92 rfl rfl at_95 rfl ?_
        refine o_virtual H92 [(.ref b85)] [] (rm3_T l Z a0 hw b78 b85 ka kx ka ky h92 n0 H92.le f94 f95 f96 f97 F92_0 F92_1) f94 (w14 hw) (w15 hw) (o_nf (w17 hw)) (w17 hw) (w16 hw) (w3 hw) (w18 hw) (by decide) (lenOf pd3 rfl) rfl rfl (by decide) (Nat.le_of_ble_eq_true rfl) (by decide) (by decide) at_97 rfl ?_
        intro T100 v100 h100 H100 q100
        obtain ⟨rfl, rfl⟩ := q100
        show oG p e below s n0 _ _ _ (T100.setTop (mkF m 100 #[.val (.int p1), .val (.int p2), .val (.int p3), .val (.int p4), .val (.int p5), .val (.int ka), .val (.int kx), .val (.int ka), .val (.int ky), .val (.ref b78), .val (.ref b85), .val (.int b99), .unset] [(.int (own_eq ka kx ka ky))]))
        refine o_iload H100 rfl at_100 rfl ?_
        refine o_icmp_f H100 at_102 (XT.ii_ne_f (by rw [own_eqs]; exact eb99.symm)) rfl ?_
        refine o_iconst H100 (1 : Int32) rfl at_105 rfl ?_
        refine o_goto H100 at_106 (pt := 110) (by decide) (by decide) ?_
        refine o_istore H100 (L' := #[.val (.int p1), .val (.int p2), .val (.int p3), .val (.int p4), .val (.int p5), .val (.int ka), .val (.int kx), .val (.int ka), .val (.int ky), .val (.ref b78), .val (.ref b85), .val (.int b99), .val (.int (1 : Int32))]) rfl at_110 rfl ?_
        refine o_iload H100 rfl at_112 rfl ?_
        refine o_if_f H100 at_114 (by decide) rfl ?_
        refine o_aload H100 rfl rfl at_117 rfl ?_
        refine o_aload H100 rfl rfl at_119 rfl ?_
        refine o_virtual H100 [(.ref b78)] [] (rm3_T l Z a0 hw b85 b78 ka ky ka kx h92 n0 H100.le f97 F92_0 F92_1 f94 f95 f96) f97 (w14 hw) (w15 hw) (o_nf (w17 hw)) (w17 hw) (w16 hw) (w3 hw) (w18 hw) (by decide) (lenOf pd3 rfl) rfl rfl (by decide) (Nat.le_of_ble_eq_true rfl) (by decide) (by decide) at_121 rfl ?_
        intro T101 v101 h101 H101 q101
        obtain ⟨rfl, rfl⟩ := q101
        show oG p e below s n0 _ _ _ (T101.setTop (mkF m 124 #[.val (.int p1), .val (.int p2), .val (.int p3), .val (.int p4), .val (.int p5), .val (.int ka), .val (.int kx), .val (.int ka), .val (.int ky), .val (.ref b78), .val (.ref b85), .val (.int b99), .val (.int (1 : Int32))] [(.int (own_eq ka ky ka kx))]))
        refine o_iload H101 rfl at_124 rfl ?_
        refine o_icmp_f H101 at_126 (XT.ii_ne_f (by rw [own_eqt]; exact eb99.symm)) rfl ?_
        refine o_iconst H101 (1 : Int32) rfl at_129 rfl ?_
        refine o_goto H101 at_130 (pt := 134) (by decide) (by decide) ?_
        refine o_istore H101 (L' := #[.val (.int p1), .val (.int p2), .val (.int p3), .val (.int p4), .val (.int p5), .val (.int ka), .val (.int kx), .val (.int ka), .val (.int ky), .val (.ref b78), .val (.ref b85), .val (.int b99), .val (.int (1 : Int32))]) rfl at_134 rfl ?_
        refine o_iload H101 rfl at_136 rfl ?_
        refine o_if_f H101 at_138 (by decide) rfl ?_
        refine o_aload H101 rfl rfl at_141 rfl ?_
        refine o_aload H101 rfl rfl at_143 rfl ?_
        refine o_virtual H101 [(.ref b78)] [] ((rm3_T l Z a0 hw b78 b78 ka kx ka kx h92 n0 H101.le f94 f95 f96 f94 f95 f96).mono (fun v h q => (⟨by rw [q.1, own_eqs, if_pos ⟨rfl, rfl⟩], q.2⟩ : v = some (.int 1) ∧ h92 = h))) f94 (w14 hw) (w15 hw) (o_nf (w17 hw)) (w17 hw) (w16 hw) (w3 hw) (w18 hw) (by decide) (lenOf pd3 rfl) rfl rfl (by decide) (Nat.le_of_ble_eq_true rfl) (by decide) (by decide) at_145 rfl ?_
        intro T102 v102 h102 H102 q102
        obtain ⟨rfl, rfl⟩ := q102
        show oG p e below s n0 _ _ _ (T102.setTop (mkF m 148 #[.val (.int p1), .val (.int p2), .val (.int p3), .val (.int p4), .val (.int p5), .val (.int ka), .val (.int kx), .val (.int ka), .val (.int ky), .val (.ref b78), .val (.ref b85), .val (.int b99), .val (.int (1 : Int32))] [(.int (1 : Int32))]))
        refine o_if_f H102 at_148 (by decide) rfl ?_
        refine o_iconst H102 (1 : Int32) rfl at_151 rfl ?_
        refine o_goto H102 at_152 (pt := 156) (by decide) (by decide) ?_
        refine o_istore H102 (L' := #[.val (.int p1), .val (.int p2), .val (.int p3), .val (.int p4), .val (.int p5), .val (.int ka), .val (.int kx), .val (.int ka), .val (.int ky), .val (.ref b78), .val (.ref b85), .val (.int b99), .val (.int (1 : Int32))]) rfl at_156 rfl ?_
        refine o_iload H102 rfl at_158 rfl ?_
        refine o_if_f H102 at_160 (by decide) rfl ?_
        refine o_aload H102 rfl rfl at_163 rfl ?_
        refine o_aconst_null H102 at_165 rfl ?_
        refine o_virtual H102 [.null] [] (rm3_N l Z a0 hw b78 h92 n0 H102.le) f94 (w14 hw) (w15 hw) (o_nf (w17 hw)) (w17 hw) (w16 hw) (w3 hw) (w18 hw) (by decide) (lenOf pd3 rfl) rfl rfl (by decide) (Nat.le_of_ble_eq_true rfl) (by decide) (by decide) at_166 rfl ?_
        intro T103 v103 h103 H103 q103
        obtain ⟨rfl, rfl⟩ := q103
        show oG p e below s n0 _ _ _ (T103.setTop (mkF m 169 #[.val (.int p1), .val (.int p2), .val (.int p3), .val (.int p4), .val (.int p5), .val (.int ka), .val (.int kx), .val (.int ka), .val (.int ky), .val (.ref b78), .val (.ref b85), .val (.int b99), .val (.int (1 : Int32))] [(.int (0 : Int32))]))
        refine o_if_f H103 at_169 (by decide) rfl ?_
        refine o_iconst H103 (1 : Int32) rfl at_172 rfl ?_
        refine o_goto H103 at_173 (pt := 177) (by decide) (by decide) ?_
        refine o_istore H103 (L' := #[.val (.int p1), .val (.int p2), .val (.int p3), .val (.int p4), .val (.int p5), .val (.int ka), .val (.int kx), .val (.int ka), .val (.int ky), .val (.ref b78), .val (.ref b85), .val (.int b99), .val (.int (1 : Int32))]) rfl at_177 rfl ?_
        refine o_iload H103 rfl at_179 rfl ?_
        refine o_if_f H103 at_181 (by decide) rfl ?_
        refine o_aload H103 rfl rfl at_184 rfl ?_
        refine o_iload H103 rfl at_186 rfl ?_
        refine o_static H103 [(.int kx)] [(.ref b78)] (rm4 l Z a0 hw kx ca cl h92 n0 H103.le (S_high.ext (o_kext k93)) (S_cache.ext (o_kext k93)) AC BX (o_etrans E0 (o_kext k93))) (w21 hw) (w22 hw) (w23 hw) (w24 hw) (by decide) (lenOf pd4 rfl) rfl rfl (by decide) (Nat.le_of_ble_eq_true rfl) (by decide) (by decide) at_188 rfl ?_
        intro T104 v104 h104 H104 q104
        obtain ⟨r104, rfl, K104, E104⟩ := q104
        have k105 := k93.trans K104 all0
        have f106 := f94.keep K104
        have f107 := f95.keep K104 nin0
        have f108 := f96.keep K104 nin0
        have f109 := f97.keep K104
        have f110 := F92_0.keep K104 nin0
        have f111 := F92_1.keep K104 nin0
        show oG p e below s n0 _ _ _ (T104.setTop (mkF m 191 #[.val (.int p1), .val (.int p2), .val (.int p3), .val (.int p4), .val (.int p5), .val (.int ka), .val (.int kx), .val (.int ka), .val (.int ky), .val (.ref b78), .val (.ref b85), .val (.int b99), .val (.int (1 : Int32))] [(.ref r104), (.ref b78)]))
        refine o_virtual H104 [(.ref r104)] [] (rm3_I l Z a0 hw b78 r104 h104 n0 H104.le E104) f106 (w14 hw) (w15 hw) (o_nf (w17 hw)) (w17 hw) (w16 hw) (w3 hw) (w18 hw) (by decide) (lenOf pd3 rfl) rfl rfl (by decide) (Nat.le_of_ble_eq_true rfl) (by decide) (by decide) at_191 rfl ?_
        intro T112 v112 h112 H112 q112
        obtain ⟨rfl, rfl⟩ := q112
        show oG p e below s n0 _ _ _ (T112.setTop (mkF m 194 #[.val (.int p1), .val (.int p2), .val (.int p3), .val (.int p4), .val (.int p5), .val (.int ka), .val (.int kx), .val (.int ka), .val (.int ky), .val (.ref b78), .val (.ref b85), .val (.int b99), .val (.int (1 : Int32))] [(.int (0 : Int32))]))
        refine o_if_f H112 at_194 (by decide) rfl ?_
        refine o_iconst H112 (1 : Int32) rfl at_197 rfl ?_
        refine o_goto H112 at_198 (pt := 202) (by decide) (by decide) ?_
        refine o_istore H112 (L' := #[.val (.int p1), .val (.int p2), .val (.int p3), .val (.int p4), .val (.int p5), .val (.int ka), .val (.int kx), .val (.int ka), .val (.int ky), .val (.ref b78), .val (.ref b85), .val (.int b99), .val (.int (1 : Int32))]) rfl at_202 rfl ?_
        refine o_iload H112 rfl at_204 rfl ?_
        exact o_nreturn H112 .boolean rfl (by simp) at_206 (by decide) (by decide) rfl
      refine o_iload H92 rfl at_72 rfl ?_
      refine o_iload H92 rfl at_74 rfl ?_
      refine o_icmp_ne H92 at_76 (pt := 90) (by decide) (by decide) rfl ?_ ?_
      · intro c76_113
        refine o_iconst H92 (0 : Int32) rfl at_90 rfl ?_
        exact j98 (0 : Int32) (by first | (simp [c76_113]; done) | (exact absurd rfl c76_113) | simp_all)
      · intro c76_113
        refine o_iload H92 rfl at_79 rfl ?_
        refine o_iload H92 rfl at_81 rfl ?_
        refine o_icmp_ne H92 at_83 (pt := 90) (by decide) (by decide) rfl ?_ ?_
        · intro c83_114
          refine o_iconst H92 (0 : Int32) rfl at_90 rfl ?_
          exact j98 (0 : Int32) (by first | (simp [c76_113, c83_114]; done) | (exact absurd rfl c83_114) | simp_all)
        · intro c83_114
          refine o_iconst H92 (1 : Int32) rfl at_86 rfl ?_
          refine o_goto H92 at_87 (pt := 91) (by decide) (by decide) ?_
          exact j98 (1 : Int32) (by first | (simp [c76_113, c83_114]; done) | (exact absurd rfl c83_114) | simp_all)
    · intro c32_77
      refine o_iload H rfl at_35 rfl ?_
      refine o_goto H at_37 (pt := 44) (by decide) (by decide) ?_
      refine o_istore H (L' := #[.val (.int p1), .val (.int p2), .val (.int p3), .val (.int p4), .val (.int p5), .val (.int (p1 &&& (3 : Int32))), .val (.int (p2 &&& (2147483647 : Int32))), .val (.int (p1 &&& (3 : Int32))), .val (.int (p2 &&& (2147483647 : Int32))), .unset, .unset, .unset, .unset]) rfl at_44 rfl ?_
      obtain ⟨ka, e_ka⟩ : ∃ z : Int32, z = (p1 &&& (3 : Int32)) := ⟨_, rfl⟩
      rw [← e_ka]
      have r_ka := own_r3 p1
      rw [← e_ka] at r_ka
      obtain ⟨kx, e_kx⟩ : ∃ z : Int32, z = (p2 &&& (2147483647 : Int32)) := ⟨_, rfl⟩
      rw [← e_kx]
      have r_kx := own_rM p2
      rw [← e_kx] at r_kx
      refine o_new H (w1 hw) (w2 hw) (w3 hw) at_46 rfl (by decide) (by decide) ?_
      intro T115 h115 b115 g115 H115 E115 A115 D115
      have z115 : n0 ≤ b115 := by rw [g115]; exact H.le
      have y115 : h0.size ≤ b115 := by rw [g115]; exact (Keep.refl h0 []).1
      have k116 := (Keep.refl h0 []).ext E115
      have f117 : Fld Z h115 b115 "com/example/lachesis/lachesis/BerTag" "tagClass" "I" (.int (0 : Int32)) := D115 (Or.inr (w11 hw)) (ty := .int) (by decide)
      have f118 : Fld Z h115 b115 "com/example/lachesis/lachesis/BerTag" "number" "I" (.int (0 : Int32)) := D115 (Or.inr (w13 hw)) (ty := .int) (by decide)
      refine o_dup H115 rfl at_49 rfl ?_
      refine o_iload H115 rfl at_50 rfl ?_
      refine o_iload H115 rfl at_52 rfl ?_
      refine o_special H115 [(.int ka), (.int kx)] [(.ref b115)] (rm1 l Z a0 hw b115 ka kx h115 n0 H115.le A115 z115 f117 f118 r_ka.1 r_ka.2 r_kx) rfl (w4 hw) (w5 hw) (w3 hw) (w6 hw) (by decide) (lenOf pd1 rfl) rfl rfl (by decide) (Nat.le_of_ble_eq_true rfl) (by decide) (by decide) at_54 rfl ?_
      intro T119 v119 h119 H119 q119
      obtain ⟨rfl, K119, F119_0, F119_1⟩ := q119
      have k120 := k116.trans K119 (allS (Or.inr y115) all0)
      have f121 := A115.keep K119
      show oG p e below s n0 _ _ _ (T119.setTop (mkF m 57 #[.val (.int p1), .val (.int p2), .val (.int p3), .val (.int p4), .val (.int p5), .val (.int ka), .val (.int kx), .val (.int ka), .val (.int kx), .unset, .unset, .unset, .unset] [(.ref b115)]))
      refine o_astore H119 (L' := #[.val (.int p1), .val (.int p2), .val (.int p3), .val (.int p4), .val (.int p5), .val (.int ka), .val (.int kx), .val (.int ka), .val (.int kx), .val (.ref b115), .unset, .unset, .unset]) rfl rfl at_57 rfl ?_
      refine o_new H119 (w1 hw) (w2 hw) (w3 hw) at_59 rfl (by decide) (by decide) ?_
      intro T122 h122 b122 g122 H122 E122 A122 D122
      have ne122_b115 : b115 ≠ b122 := by rw [g122]; exact Nat.ne_of_lt (f121).lt
      have z122 : n0 ≤ b122 := by rw [g122]; exact H119.le
      have y122 : h0.size ≤ b122 := by rw [g122]; exact k120.1
      have k123 := k120.ext E122
      have f124 := f121.ext E122
      have f125 := F119_0.ext E122
      have f126 := F119_1.ext E122
      have f127 : Fld Z h122 b122 "com/example/lachesis/lachesis/BerTag" "tagClass" "I" (.int (0 : Int32)) := D122 (Or.inr (w11 hw)) (ty := .int) (by decide)
      have f128 : Fld Z h122 b122 "com/example/lachesis/lachesis/BerTag" "number" "I" (.int (0 : Int32)) := D122 (Or.inr (w13 hw)) (ty := .int) (by decide)
      refine o_dup H122 rfl at_62 rfl ?_
      refine o_iload H122 rfl at_63 rfl ?_
      refine o_iload H122 rfl at_65 rfl ?_
      refine o_special H122 [(.int ka), (.int kx)] [(.ref b122)] (rm1 l Z a0 hw b122 ka kx h122 n0 H122.le A122 z122 f127 f128 r_ka.1 r_ka.2 r_kx) rfl (w4 hw) (w5 hw) (w3 hw) (w6 hw) (by decide) (lenOf pd1 rfl) rfl rfl (by decide) (Nat.le_of_ble_eq_true rfl) (by decide) (by decide) at_67 rfl ?_
      intro T129 v129 h129 H129 q129
      obtain ⟨rfl, K129, F129_0, F129_1⟩ := q129
      have k130 := k123.trans K129 (allS (Or.inr y122) all0)
      have f131 := f124.keep K129
      have f132 := f125.keep K129 (ninS ne122_b115 nin0)
      have f133 := f126.keep K129 (ninS ne122_b115 nin0)
      have f134 := A122.keep K129
      show oG p e below s n0 _ _ _ (T129.setTop (mkF m 70 #[.val (.int p1), .val (.int p2), .val (.int p3), .val (.int p4), .val (.int p5), .val (.int ka), .val (.int kx), .val (.int ka), .val (.int kx), .val (.ref b115), .unset, .unset, .unset] [(.ref b122)]))
      refine o_astore H129 (L' := #[.val (.int p1), .val (.int p2), .val (.int p3), .val (.int p4), .val (.int p5), .val (.int ka), .val (.int kx), .val (.int ka), .val (.int kx), .val (.ref b115), .val (.ref b122), .unset, .unset]) rfl rfl at_70 rfl ?_
      have j135 : ∀ b136 : Int32, b136 = (if ka = ka ∧ kx = kx then (1 : Int32) else 0) → oG p e below s n0 16 128 (fun v h => v = some (.int 1)) (T129.setTop (mkF m 91 #[.val (.int p1), .val (.int p2), .val (.int p3), .val (.int p4), .val (.int p5), .val (.int ka), .val (.int kx), .val (.int ka), .val (.int kx), .val (.ref b115), .val (.ref b122), .unset, .unset] [(.int b136)])) := by
        intro b136 eb136
        refine o_istore H129 (L' := #[.val (.int p1), .val (.int p2), .val (.int p3), .val (.int p4), .val (.int p5), .val (.int ka), .val (.int kx), .val (.int ka), .val (.int kx), .val (.ref b115), .val (.ref b122), .val (.int b136), .unset]) rfl at_91 rfl ?_
        refine o_aload H129 rfl rfl at_93 rfl ?_
        refine o_aload H129 rfl rfl at_95 rfl ?_
        refine o_virtual H129 [(.ref b122)] [] (rm3_T l Z a0 hw b115 b122 ka kx ka kx h129 n0 H129.le f131 f132 f133 f134 F129_0 F129_1) f131 (w14 hw) (w15 hw) (o_nf (w17 hw)) (w17 hw) (w16 hw) (w3 hw) (w18 hw) (by decide) (lenOf pd3 rfl) rfl rfl (by decide) (Nat.le_of_ble_eq_true rfl) (by decide) (by decide) at_97 rfl ?_
        intro T137 v137 h137 H137 q137
        obtain ⟨rfl, rfl⟩ := q137
        show oG p e below s n0 _ _ _ (T137.setTop (mkF m 100 #[.val (.int p1), .val (.int p2), .val (.int p3), .val (.int p4), .val (.int p5), .val (.int ka), .val (.int kx), .val (.int ka), .val (.int kx), .val (.ref b115), .val (.ref b122), .val (.int b136), .unset] [(.int (own_eq ka kx ka kx))]))
        refine o_iload H137 rfl at_100 rfl ?_
        refine o_icmp_f H137 at_102 (XT.ii_ne_f (by rw [own_eqs]; exact eb136.symm)) rfl ?_
        refine o_iconst H137 (1 : Int32) rfl at_105 rfl ?_
        refine o_goto H137 at_106 (pt := 110) (by decide) (by decide) ?_
        refine o_istore H137 (L' := #[.val (.int p1), .val (.int p2), .val (.int p3), .val (.int p4), .val (.int p5), .val (.int ka), .val (.int kx), .val (.int ka), .val (.int kx), .val (.ref b115), .val (.ref b122), .val (.int b136), .val (.int (1 : Int32))]) rfl at_110 rfl ?_
        refine o_iload H137 rfl at_112 rfl ?_
        refine o_if_f H137 at_114 (by decide) rfl ?_
        refine o_aload H137 rfl rfl at_117 rfl ?_
        refine o_aload H137 rfl rfl at_119 rfl ?_
        refine o_virtual H137 [(.ref b115)] [] (rm3_T l Z a0 hw b122 b115 ka kx ka kx h129 n0 H137.le f134 F129_0 F129_1 f131 f132 f133) f134 (w14 hw) (w15 hw) (o_nf (w17 hw)) (w17 hw) (w16 hw) (w3 hw) (w18 hw) (by decide) (lenOf pd3 rfl) rfl rfl (by decide) (Nat.le_of_ble_eq_true rfl) (by decide) (by decide) at_121 rfl ?_
        intro T138 v138 h138 H138 q138
        obtain ⟨rfl, rfl⟩ := q138
        show oG p e below s n0 _ _ _ (T138.setTop (mkF m 124 #[.val (.int p1), .val (.int p2), .val (.int p3), .val (.int p4), .val (.int p5), .val (.int ka), .val (.int kx), .val (.int ka), .val (.int kx), .val (.ref b115), .val (.ref b122), .val (.int b136), .val (.int (1 : Int32))] [(.int (own_eq ka kx ka kx))]))
        refine o_iload H138 rfl at_124 rfl ?_
        refine o_icmp_f H138 at_126 (XT.ii_ne_f (by rw [own_eqt]; exact eb136.symm)) rfl ?_
        refine o_iconst H138 (1 : Int32) rfl at_129 rfl ?_
        refine o_goto H138 at_130 (pt := 134) (by decide) (by decide) ?_
        refine o_istore H138 (L' := #[.val (.int p1), .val (.int p2), .val (.int p3), .val (.int p4), .val (.int p5), .val (.int ka), .val (.int kx), .val (.int ka), .val (.int kx), .val (.ref b115), .val (.ref b122), .val (.int b136), .val (.int (1 : Int32))]) rfl at_134 rfl ?_
        refine o_iload H138 rfl at_136 rfl ?_
        refine o_if_f H138 at_138 (by decide) rfl ?_
        refine o_aload H138 rfl rfl at_141 rfl ?_
        refine o_aload H138 rfl rfl at_143 rfl ?_
        refine o_virtual H138 [(.ref b115)] [] ((rm3_T l Z a0 hw b115 b115 ka kx ka kx h129 n0 H138.le f131 f132 f133 f131 f132 f133).mono (fun v h q => (⟨by rw [q.1, own_eqs, if_pos ⟨rfl, rfl⟩], q.2⟩ : v = some (.int 1) ∧ h129 = h))) f131 (w14 hw) (w15 hw) (o_nf (w17 hw)) (w17 hw) (w16 hw) (w3 hw) (w18 hw) (by decide) (lenOf pd3 rfl) rfl rfl (by decide) (Nat.le_of_ble_eq_true rfl) (by decide) (by decide) at_145 rfl ?_
        intro T139 v139 h139 H139 q139
        obtain ⟨rfl, rfl⟩ := q139
        show oG p e below s n0 _ _ _ (T139.setTop (mkF m 148 #[.val (.int p1), .val (.int p2), .val (.int p3), .val (.int p4), .val (.int p5), .val (.int ka), .val (.int kx), .val (.int ka), .val (.int kx), .val (.ref b115), .val (.ref b122), .val (.int b136), .val (.int (1 : Int32))] [(.int (1 : Int32))]))
        refine o_if_f H139 at_148 (by decide) rfl ?_
        refine o_iconst H139 (1 : Int32) rfl at_151 rfl ?_
        refine o_goto H139 at_152 (pt := 156) (by decide) (by decide) ?_
        refine o_istore H139 (L' := #[.val (.int p1), .val (.int p2), .val (.int p3), .val (.int p4), .val (.int p5), .val (.int ka), .val (.int kx), .val (.int ka), .val (.int kx), .val (.ref b115), .val (.ref b122), .val (.int b136), .val (.int (1 : Int32))]) rfl at_156 rfl ?_
        refine o_iload H139 rfl at_158 rfl ?_
        refine o_if_f H139 at_160 (by decide) rfl ?_
        refine o_aload H139 rfl rfl at_163 rfl ?_
        refine o_aconst_null H139 at_165 rfl ?_
        refine o_virtual H139 [.null] [] (rm3_N l Z a0 hw b115 h129 n0 H139.le) f131 (w14 hw) (w15 hw) (o_nf (w17 hw)) (w17 hw) (w16 hw) (w3 hw) (w18 hw) (by decide) (lenOf pd3 rfl) rfl rfl (by decide) (Nat.le_of_ble_eq_true rfl) (by decide) (by decide) at_166 rfl ?_
        intro T140 v140 h140 H140 q140
        obtain ⟨rfl, rfl⟩ := q140
        show oG p e below s n0 _ _ _ (T140.setTop (mkF m 169 #[.val (.int p1), .val (.int p2), .val (.int p3), .val (.int p4), .val (.int p5), .val (.int ka), .val (.int kx), .val (.int ka), .val (.int kx), .val (.ref b115), .val (.ref b122), .val (.int b136), .val (.int (1 : Int32))] [(.int (0 : Int32))]))
        refine o_if_f H140 at_169 (by decide) rfl ?_
        refine o_iconst H140 (1 : Int32) rfl at_172 rfl ?_
        refine o_goto H140 at_173 (pt := 177) (by decide) (by decide) ?_
        refine o_istore H140 (L' := #[.val (.int p1), .val (.int p2), .val (.int p3), .val (.int p4), .val (.int p5), .val (.int ka), .val (.int kx), .val (.int ka), .val (.int kx), .val (.ref b115), .val (.ref b122), .val (.int b136), .val (.int (1 : Int32))]) rfl at_177 rfl ?_
        refine o_iload H140 rfl at_179 rfl ?_
        refine o_if_f H140 at_181 (by decide) rfl ?_
        refine o_aload H140 rfl rfl at_184 rfl ?_
        refine o_iload H140 rfl at_186 rfl ?_
        refine o_static H140 [(.int kx)] [(.ref b115)] (rm4 l Z a0 hw kx ca cl h129 n0 H140.le (S_high.ext (o_kext k130)) (S_cache.ext (o_kext k130)) AC BX (o_etrans E0 (o_kext k130))) (w21 hw) (w22 hw) (w23 hw) (w24 hw) (by decide) (lenOf pd4 rfl) rfl rfl (by decide) (Nat.le_of_ble_eq_true rfl) (by decide) (by decide) at_188 rfl ?_
        intro T141 v141 h141 H141 q141
        obtain ⟨r141, rfl, K141, E141⟩ := q141
        have k142 := k130.trans K141 all0
        have f143 := f131.keep K141
        have f144 := f132.keep K141 nin0
        have f145 := f133.keep K141 nin0
        have f146 := f134.keep K141
        have f147 := F129_0.keep K141 nin0
        have f148 := F129_1.keep K141 nin0
        show oG p e below s n0 _ _ _ (T141.setTop (mkF m 191 #[.val (.int p1), .val (.int p2), .val (.int p3), .val (.int p4), .val (.int p5), .val (.int ka), .val (.int kx), .val (.int ka), .val (.int kx), .val (.ref b115), .val (.ref b122), .val (.int b136), .val (.int (1 : Int32))] [(.ref r141), (.ref b115)]))
        refine o_virtual H141 [(.ref r141)] [] (rm3_I l Z a0 hw b115 r141 h141 n0 H141.le E141) f143 (w14 hw) (w15 hw) (o_nf (w17 hw)) (w17 hw) (w16 hw) (w3 hw) (w18 hw) (by decide) (lenOf pd3 rfl) rfl rfl (by decide) (Nat.le_of_ble_eq_true rfl) (by decide) (by decide) at_191 rfl ?_
        intro T149 v149 h149 H149 q149
        obtain ⟨rfl, rfl⟩ := q149
        show oG p e below s n0 _ _ _ (T149.setTop (mkF m 194 #[.val (.int p1), .val (.int p2), .val (.int p3), .val (.int p4), .val (.int p5), .val (.int ka), .val (.int kx), .val (.int ka), .val (.int kx), .val (.ref b115), .val (.ref b122), .val (.int b136), .val (.int (1 : Int32))] [(.int (0 : Int32))]))
        refine o_if_f H149 at_194 (by decide) rfl ?_
        refine o_iconst H149 (1 : Int32) rfl at_197 rfl ?_
        refine o_goto H149 at_198 (pt := 202) (by decide) (by decide) ?_
        refine o_istore H149 (L' := #[.val (.int p1), .val (.int p2), .val (.int p3), .val (.int p4), .val (.int p5), .val (.int ka), .val (.int kx), .val (.int ka), .val (.int kx), .val (.ref b115), .val (.ref b122), .val (.int b136), .val (.int (1 : Int32))]) rfl at_202 rfl ?_
        refine o_iload H149 rfl at_204 rfl ?_
        exact o_nreturn H149 .boolean rfl (by simp) at_206 (by decide) (by decide) rfl
      refine o_iload H129 rfl at_72 rfl ?_
      refine o_iload H129 rfl at_74 rfl ?_
      refine o_icmp_ne H129 at_76 (pt := 90) (by decide) (by decide) rfl ?_ ?_
      · intro c76_150
        refine o_iconst H129 (0 : Int32) rfl at_90 rfl ?_
        exact j135 (0 : Int32) (by first | (simp [c76_150]; done) | (exact absurd rfl c76_150) | simp_all)
      · intro c76_150
        refine o_iload H129 rfl at_79 rfl ?_
        refine o_iload H129 rfl at_81 rfl ?_
        refine o_icmp_ne H129 at_83 (pt := 90) (by decide) (by decide) rfl ?_ ?_
        · intro c83_151
          refine o_iconst H129 (0 : Int32) rfl at_90 rfl ?_
          exact j135 (0 : Int32) (by first | (simp [c76_150, c83_151]; done) | (exact absurd rfl c83_151) | simp_all)
        · intro c83_151
          refine o_iconst H129 (1 : Int32) rfl at_86 rfl ?_
          refine o_goto H129 at_87 (pt := 91) (by decide) (by decide) ?_
          exact j135 (1 : Int32) (by first | (simp [c76_150, c83_151]; done) | (exact absurd rfl c83_151) | simp_all)
set_option maxRecDepth 65536 in
set_option maxHeartbeats 40000000 in
theorem comes_1 {Post : Tables → Env → Array Value → State → Outcome → State → Prop} (hpost : ∀ tb e args s v u, (limb_1_1.after args s (.returned v) u = true ∧ limb_1_2.after args s (.returned v) u = true ∧ True) → FrameEnd s (.returned v) u (Jvm.fieldLocs frame_1_writes args s ++ Jvm.arrayLocs frame_1_arrays args s ++ Jvm.staticLocs frame_1_statics s) 16 128 → Post tb e args s (.returned v) u) :
    ArmFor flags0 classFile x code maxLocals ret World_1 tables_1 room_1 Calls_1 rest_1 Pre_1 Post := by
  intro l hfl _ _ p e ha hc hk s m args below hf hA hF happ hP
  obtain ⟨hcalls, hrest, hpre⟩ := hP
  obtain ⟨-, -, -, hnamed, -, -, -, hat⟩ := (Spec.applies_iff hf).mp happ
  obtain ⟨hg, hn⟩ := and_e (Cond.before_iff.mp (show (Jvm.Cond.and given_1 narrow_1).before args s = true from hpre))
  obtain ⟨g0, gs0⟩ := and_e hg
  obtain ⟨a0, gs1⟩ := and_e gs0
  obtain ⟨a1, gs2⟩ := and_e gs1
  obtain ⟨a2, gs3⟩ := and_e gs2
  obtain ⟨a3, gs4⟩ := and_e gs3
  have a4 := gs4
  obtain ⟨w0, w1, w2, w3, w4, rfl⟩ : ∃ w0 w1 w2 w3 w4 : Value, args = #[w0, w1, w2, w3, w4] := by
    have hs : args.size = 5 := by simpa [Cond.value, given_1] using g0
    obtain ⟨L⟩ := args
    match L, hs with
    | [w0, w1, w2, w3, w4], _ => exact ⟨w0, w1, w2, w3, w4, rfl⟩
  have hw := fun d (hd : d ∈ tables_1) => atoms_spec (ws := Jvm.Cond.code x code maxLocals ret :: tables_1) hat d (List.mem_cons_of_mem _ hd)
  have hfit : Fit s := fun {y c} hc i hi => by
    obtain ⟨ha, rfl⟩ := Array.getElem?_eq_some_iff.mp hc
    have q := List.all_eq_true.mp ((Array.all_eq_true_iff_forall_mem.mp hF) _ (Array.getElem_mem ha)) i (List.mem_range.mpr hi)
    simpa [Array.getElem?_eq_getElem hi] using q
  obtain ⟨i0, e0⟩ := is_v a0
  obtain rfl : w0 = (.int i0) := Option.some.inj e0
  obtain ⟨i1, e1⟩ := is_v a1
  obtain rfl : w1 = (.int i1) := Option.some.inj e1
  obtain ⟨i2, e2⟩ := is_v a2
  obtain rfl : w2 = (.int i2) := Option.some.inj e2
  obtain ⟨i3, e3⟩ := is_v a3
  obtain rfl : w3 = (.int i3) := Option.some.inj e3
  obtain ⟨i4, e4⟩ := is_v a4
  obtain rfl : w4 = (.int i4) := Option.some.inj e4
  obtain ⟨hsets, hown0⟩ := atoms_of _ (rest_1_c_eq ▸ (show rest_1_c.before _ s = true from hrest))
  have k3 := eqv_i (Term.int_eval 127) (Cond.before_iff.mp (hsets _ (List.mem_of_getElem? (i := 3) rfl)))
  have S1 : Sta s s.heap "java/lang/Integer$IntegerCache" "high" "I" (.int 127) := Sta.start k3 (Or.inl (hsets _ (List.mem_of_getElem? (i := 1) rfl)))
  obtain ⟨ca, k4⟩ := arr_v (Cond.before_iff.mp (hsets _ (List.mem_of_getElem? (i := 4) rfl)))
  have S2 : Sta s s.heap "java/lang/Integer$IntegerCache" "cache" "[Ljava/lang/Integer;" (.ref ca) := Sta.start k4 (Or.inr ⟨hw _ (List.mem_of_getElem? (i := 26) rfl), (hsets _ (List.mem_of_getElem? (i := 2) rfl))⟩)
  obtain ⟨cl, AC⟩ := Arr.start k4 (Cond.before_iff.mp (hsets _ (List.mem_of_getElem? (i := 4) rfl)))
  have k6 := eqv_i (Term.int_eval 256) (Cond.before_iff.mp (hsets _ (List.mem_of_getElem? (i := 6) rfl)))
  have hall := Cond.before_iff.mp (hsets _ (List.mem_of_getElem? (i := 7) rfl))
  have hsz : 256 ≤ cl.slots.size := by
    obtain ⟨ca', cl', e1, e2, e3⟩ := Term.length_spec k6
    cases k4.symm.trans e1
    cases (AC.fin (Vm.Alike.refl _)).symm.trans e2
    have e4 : (256 : Int32) = Int32.ofNat cl.slots.size := by injection e3
    apply Nat.le_of_not_lt; intro hlt
    have e5 := congrArg Int32.toInt e4
    rw [o_ofNat (by omega)] at e5
    have e6 : (256 : Int32).toInt = 256 := rfl
    omega
  have BX : ∀ j : Int32, ¬ j < 0 → j < 256 → ¬ (j < 0 ∨ cl.slots.size ≤ j.toNatClampNeg) ∧ ∃ b, cl.slots[j.toNatClampNeg]? = some (.ref b) ∧ Exa s s.heap b "java/lang/Integer" := by
    intro j h1 h2
    have hin : ¬ (j < 0 ∨ cl.slots.size ≤ j.toNatClampNeg) := by
      rintro (q | q)
      · exact h1 q
      · rw [n_lt] at h2; have e6 : (256 : Int32).toInt = 256 := rfl; simp only [Int32.toNatClampNeg] at q; omega
    obtain ⟨u1, u2⟩ := and_e (Cond.all_elim k4 (AC.fin (Vm.Alike.refl _)) hall j.toNatClampNeg (Nat.lt_of_not_le fun x => hin (Or.inr x)))
    obtain ⟨box, eb⟩ := exa_v u1
    exact ⟨hin, box, (elem_f (by simpa [Term.eval] using k4) (idx_at h1) (AC.fin (Vm.Alike.refl _)) h1).symm.trans eb, exa_at eb u1⟩
  obtain ⟨n, o, h1, h2, h3, _, L, rfl, ⟨rfl, N⟩, hq⟩ := rm0 l s _ hw i0 i1 i2 i3 i4 ca cl s.heap s.heap.size (Nat.le_refl _) S1 S2 AC BX ⟨Nat.le_refl _, fun _ _ q => q⟩ tables_1 p e ha hc hk s m _ below hf ((Spec.applies_iff_loose hf).mp happ).1 ⟨rfl, State.Warmed39.refl s, rfl⟩ trivial
  refine ⟨n, _, h1, h2, h3, hpost _ _ _ _ _ _ ⟨Cond.after_iff.mpr rfl, Cond.after_iff.mpr (eq_i res_at (Term.int_eval (1)) rfl), trivial⟩ ⟨hq.1, hq.2.1, (hq.2.2.sift fun y hy => Or.inr (N y hy)).mono (by decide) (by decide)⟩⟩
theorem main_1_1 : Claimed_1_1 := comes_1 fun _ _ _ _ _ _ h hF => ⟨h.1, hF⟩
theorem main_1_2 : Claimed_1_2 := comes_1 fun _ _ _ _ _ _ h hF => ⟨h.2.1, hF⟩
end Jvm.Pilot.@@N@@
namespace Jvm.Pilot.@@N@@
open Jvm Jvm.ClassFile Sem Op Lib Jvm.Free Jvm.Stand Jvm.Pilot.@@N@@.Jvm.D
/-! MADE BY PROGRAM (witnessworld.py) out of the Statement's table words and the real class files: 16 classes; the members and pool entries that the words name. The judged class is class 1, her method 1. -/
namespace start1
open Jvm.ClassFile
def u (s : String) : CpInfo := .utf8 (stringToUtf16 s)
/-- a pool by its gaps: so many unusable entries, then the entry; so many at the end -/
def gap : Nat → List CpInfo → List CpInfo
  | 0, r => r
  | n + 1, r => .unusable :: gap n r
def poolList (es : List (Nat × CpInfo)) (last : Nat) : List CpInfo := es.foldr (fun e r => gap e.1 (e.2 :: r)) (gap last [])
def pool (es : List (Nat × CpInfo)) (last : Nat) : Array CpInfo := ⟨poolList es last⟩
def fileOf (pool : Array CpInfo) (this : Nat) (attrs : Array Attribute := #[]) (ms : Array MethodInfo := #[]) (fl : Nat := 33) (sup : Nat := 0) (ifs : Array Nat := #[]) (fds : Array FieldInfo := #[]) : ClassFile where
  minorVersion := 0
  majorVersion := 65
  constantPool := pool
  accessFlags := fl
  thisClass := this
  superClass := sup
  interfaces := ifs
  fields := fds
  methods := ms
  attributes := attrs
def plain (name : String) (sup : Option ClassId) : Class where
  name := name
  kind := .ordinary
  loader := none
  accessFlags := 33
  super := sup
  interfaces := #[]
  cf := none
  fields := #[]
  methods := #[]
  instanceTypes := #[]
  staticTypes := #[]
  resolved := #[]
  callSites := []
  init := .initialized
  statics := none
  mirror := none

def pool0 : Array CpInfo := pool [(5, u "<init>"), (0, u "()V"), (1, .class_ 10), (1, u "java/lang/Object")] 113

def k0c0 : Code := { maxStack := 0, maxLocals := 1, code := object_method_1_code, exceptionTable := #[], attributes := #[] }
def k0m0 : Method := { name := "<init>", desc := "()V", sig := { parameters := [], returnType := none }, accessFlags := 1, code := some k0c0 }
/-- java/lang/Object -/
def k0 : Class := { plain "java/lang/Object" none with
  accessFlags := 33
  interfaces := #[]
  cf := some (fileOf pool0 8 #[] #[{ accessFlags := 1, nameIndex := 5, descriptorIndex := 6, attributes := #[] }] 33 0 #[] #[])
  fields := #[]
  methods := #[k0m0]
  instanceTypes := #[]
  staticTypes := #[]
  resolved := Array.replicate 124 none
  statics := none }

def pool1 : Array CpInfo := pool [(2, .class_ 4), (1, u "java/lang/Object"), (0, u "<init>"), (0, u "()V"), (0, .integer 2147483647), (0, .class_ 9), (0, u "com/example/lachesis/lachesis/BerTag"), (0, .methodref 8 11), (0, .nameAndType 5 12), (0, u "(II)V"), (0, .methodref 8 14), (0, .nameAndType 15 16), (0, u "equals"), (0, u "(Ljava/lang/Object;)Z"), (0, .methodref 18 19), (0, .class_ 20), (0, .nameAndType 21 22), (0, u "java/lang/Integer"), (0, u "valueOf"), (0, u "(I)Ljava/lang/Integer;"), (0, .class_ 24), (0, u "com/example/lachesis/lachesis/BerTagEqualsPinLaw"), (2, u "law"), (0, u "(IIIII)Z")] 3

def k1m0 : Method := { name := "<init>", desc := "()V", sig := { parameters := [], returnType := none }, accessFlags := 1, code := none }
def k1c1 : Code := { maxStack := 4, maxLocals := 13, code := code, exceptionTable := #[], attributes := #[] }
def k1m1 : Method := { name := "law", desc := "(IIIII)Z", sig := { parameters := [.int, .int, .int, .int, .int], returnType := some .boolean }, accessFlags := 9, code := some k1c1 }
/-- com/example/lachesis/lachesis/BerTagEqualsPinLaw -/
def k1 : Class := { plain "com/example/lachesis/lachesis/BerTagEqualsPinLaw" (some 0) with
  accessFlags := 49
  interfaces := #[]
  cf := some (fileOf pool1 23 #[] #[{ accessFlags := 1, nameIndex := 5, descriptorIndex := 6, attributes := #[] }, { accessFlags := 9, nameIndex := 27, descriptorIndex := 28, attributes := #[] }] 49 2 #[] #[])
  fields := #[]
  methods := #[k1m0, k1m1]
  instanceTypes := #[]
  staticTypes := #[]
  resolved := Array.replicate 32 none
  statics := none }

def pool2 : Array CpInfo := pool [(1, .methodref 2 3), (0, .class_ 4), (0, .nameAndType 5 6), (0, u "java/lang/Object"), (0, u "<init>"), (0, u "()V"), (0, .class_ 8), (0, u "com/example/lachesis/lachesis/BerTag"), (9, .fieldref 7 19), (0, .nameAndType 20 21), (0, u "tagClass"), (0, u "I"), (0, .fieldref 7 23), (0, .nameAndType 24 21), (0, u "number"), (2, u "(II)V"), (2, u "CLASS_NAMES"), (0, u "[Ljava/lang/String;"), (13, u "UNIVERSAL"), (2, u "APPLICATION"), (1, u "CONTEXT"), (1, u "PRIVATE"), (10, u "equals"), (0, u "(Ljava/lang/Object;)Z")] 21

def k2c0 : Code := { maxStack := 4, maxLocals := 3, code := prog_21_method_1_code, exceptionTable := #[], attributes := #[] }
def k2m0 : Method := { name := "<init>", desc := "(II)V", sig := { parameters := [.int, .int], returnType := none }, accessFlags := 0, code := some k2c0 }
def k2c1 : Code := { maxStack := 2, maxLocals := 3, code := prog_21_method_7_code, exceptionTable := #[], attributes := #[] }
def k2m1 : Method := { name := "equals", desc := "(Ljava/lang/Object;)Z", sig := { parameters := [(.object "java/lang/Object")], returnType := some .boolean }, accessFlags := 1, code := some k2c1 }
/-- com/example/lachesis/lachesis/BerTag -/
def k2 : Class := { plain "com/example/lachesis/lachesis/BerTag" (some 0) with
  accessFlags := 48
  interfaces := #[]
  cf := some (fileOf pool2 7 #[] #[{ accessFlags := 0, nameIndex := 5, descriptorIndex := 27, attributes := #[] }, { accessFlags := 1, nameIndex := 63, descriptorIndex := 64, attributes := #[] }] 48 2 #[] #[{ accessFlags := 24, nameIndex := 45, descriptorIndex := 21, attributes := #[] }, { accessFlags := 24, nameIndex := 48, descriptorIndex := 21, attributes := #[] }, { accessFlags := 24, nameIndex := 50, descriptorIndex := 21, attributes := #[] }, { accessFlags := 24, nameIndex := 52, descriptorIndex := 21, attributes := #[] }, { accessFlags := 26, nameIndex := 30, descriptorIndex := 31, attributes := #[] }, { accessFlags := 18, nameIndex := 20, descriptorIndex := 21, attributes := #[] }, { accessFlags := 18, nameIndex := 24, descriptorIndex := 21, attributes := #[] }])
  fields := #[{ name := "UNIVERSAL", type := .int, accessFlags := 24, slot := 0, constantValue := 0 }, { name := "APPLICATION", type := .int, accessFlags := 24, slot := 1, constantValue := 0 }, { name := "CONTEXT", type := .int, accessFlags := 24, slot := 2, constantValue := 0 }, { name := "PRIVATE", type := .int, accessFlags := 24, slot := 3, constantValue := 0 }, { name := "CLASS_NAMES", type := (.array (.object "java/lang/String")), accessFlags := 26, slot := 4, constantValue := 0 }, { name := "tagClass", type := .int, accessFlags := 18, slot := 0, constantValue := 0 }, { name := "number", type := .int, accessFlags := 18, slot := 1, constantValue := 0 }]
  methods := #[k2m0, k2m1]
  instanceTypes := #[.int, .int]
  staticTypes := #[.int, .int, .int, .int, (.array (.object "java/lang/String"))]
  resolved := Array.replicate 86 none
  statics := none }

def pool3 : Array CpInfo := pool [(1, .class_ 2), (0, u "java/io/Serializable"), (0, .class_ 4), (0, u "java/lang/Object")] 2

/-- java/io/Serializable -/
def k3 : Class := { plain "java/io/Serializable" (some 0) with
  accessFlags := 1537
  interfaces := #[]
  cf := some (fileOf pool3 1 #[] #[] 1537 3 #[] #[])
  fields := #[]
  methods := #[]
  instanceTypes := #[]
  staticTypes := #[]
  resolved := Array.replicate 7 none
  statics := none }

def pool4 : Array CpInfo := pool [(1, .methodref 2 3), (0, .class_ 4), (0, .nameAndType 5 6), (0, u "java/lang/Object"), (0, u "<init>"), (0, u "()V"), (1, .class_ 10), (1, u "java/lang/Number"), (2, .class_ 14), (0, u "java/io/Serializable"), (0, u "serialVersionUID"), (0, u "J")] 20

def k4c0 : Code := { maxStack := 1, maxLocals := 1, code := jdk_18_method_1_code, exceptionTable := #[], attributes := #[] }
def k4m0 : Method := { name := "<init>", desc := "()V", sig := { parameters := [], returnType := none }, accessFlags := 1, code := some k4c0 }
/-- java/lang/Number -/
def k4 : Class := { plain "java/lang/Number" (some 0) with
  accessFlags := 1057
  interfaces := #[3]
  cf := some (fileOf pool4 8 #[] #[{ accessFlags := 1, nameIndex := 5, descriptorIndex := 6, attributes := #[] }] 1057 2 #[13] #[{ accessFlags := 26, nameIndex := 15, descriptorIndex := 16, attributes := #[] }])
  fields := #[{ name := "serialVersionUID", type := .long, accessFlags := 26, slot := 0, constantValue := 0 }]
  methods := #[k4m0]
  instanceTypes := #[]
  staticTypes := #[.long]
  resolved := Array.replicate 37 none
  statics := none }

def pool5 : Array CpInfo := pool [(1, .class_ 2), (0, u "java/lang/Comparable"), (0, .class_ 4), (0, u "java/lang/Object")] 7

/-- java/lang/Comparable -/
def k5 : Class := { plain "java/lang/Comparable" (some 0) with
  accessFlags := 1537
  interfaces := #[]
  cf := some (fileOf pool5 1 #[] #[] 1537 3 #[] #[])
  fields := #[]
  methods := #[]
  instanceTypes := #[]
  staticTypes := #[]
  resolved := Array.replicate 12 none
  statics := none }

def pool6 : Array CpInfo := pool [(1, .class_ 2), (0, u "java/lang/constant/Constable"), (0, .class_ 4), (0, u "java/lang/Object")] 6

/-- java/lang/constant/Constable -/
def k6 : Class := { plain "java/lang/constant/Constable" (some 0) with
  accessFlags := 1537
  interfaces := #[]
  cf := some (fileOf pool6 1 #[] #[] 1537 3 #[] #[])
  fields := #[]
  methods := #[]
  instanceTypes := #[]
  staticTypes := #[]
  resolved := Array.replicate 11 none
  statics := none }

def pool7 : Array CpInfo := pool [(1, .class_ 2), (0, u "java/lang/constant/ConstantDesc"), (0, .class_ 4), (0, u "java/lang/Object")] 32

/-- java/lang/constant/ConstantDesc -/
def k7 : Class := { plain "java/lang/constant/ConstantDesc" (some 0) with
  accessFlags := 1537
  interfaces := #[]
  cf := some (fileOf pool7 1 #[] #[] 1537 3 #[] #[])
  fields := #[]
  methods := #[]
  instanceTypes := #[]
  staticTypes := #[]
  resolved := Array.replicate 37 none
  statics := none }

def pool8 : Array CpInfo := pool [(1, .class_ 2), (0, u "java/lang/Integer"), (16, u "digits"), (0, u "[C"), (46, u "<init>"), (17, u "DigitOnes"), (0, u "[B"), (2, u "DigitTens"), (10, .nameAndType 67 101), (0, u "()V"), (85, u "valueOf"), (0, u "(I)Ljava/lang/Integer;"), (0, .class_ 190), (0, u "java/lang/Integer$IntegerCache"), (0, .fieldref 189 192), (0, .nameAndType 193 194), (0, u "high"), (0, u "I"), (0, .fieldref 189 196), (0, .nameAndType 197 198), (0, u "cache"), (0, u "[Ljava/lang/Integer;"), (0, .methodref 1 200), (0, .nameAndType 67 201), (0, u "(I)V"), (0, .methodref 203 100), (0, .class_ 204), (0, u "java/lang/Number"), (0, .fieldref 1 206), (0, .nameAndType 207 194), (0, u "value"), (94, u "TYPE"), (0, u "Ljava/lang/Class;"), (0, .class_ 305), (0, u "java/lang/Comparable"), (0, .class_ 307), (0, u "java/lang/constant/Constable"), (0, .class_ 309), (0, u "java/lang/constant/ConstantDesc"), (0, u "MIN_VALUE"), (1, u "MAX_VALUE"), (3, u "SIZE"), (1, u "BYTES"), (1, u "serialVersionUID"), (0, u "J")] 131

def k8c0 : Code := { maxStack := 3, maxLocals := 1, code := jdk_33_method_22_code, exceptionTable := #[], attributes := #[] }
def k8m0 : Method := { name := "valueOf", desc := "(I)Ljava/lang/Integer;", sig := { parameters := [.int], returnType := some (.object "java/lang/Integer") }, accessFlags := 9, code := some k8c0 }
def k8c1 : Code := { maxStack := 2, maxLocals := 2, code := jdk_33_method_23_code, exceptionTable := #[], attributes := #[] }
def k8m1 : Method := { name := "<init>", desc := "(I)V", sig := { parameters := [.int], returnType := none }, accessFlags := 1, code := some k8c1 }
/-- java/lang/Integer -/
def k8 : Class := { plain "java/lang/Integer" (some 4) with
  accessFlags := 49
  interfaces := #[5, 6, 7]
  cf := some (fileOf pool8 1 #[.nestMembers #[189]] #[{ accessFlags := 9, nameIndex := 187, descriptorIndex := 188, attributes := #[] }, { accessFlags := 1, nameIndex := 67, descriptorIndex := 201, attributes := #[] }] 49 203 #[304, 306, 308] #[{ accessFlags := 25, nameIndex := 310, descriptorIndex := 194, attributes := #[] }, { accessFlags := 25, nameIndex := 312, descriptorIndex := 194, attributes := #[] }, { accessFlags := 25, nameIndex := 302, descriptorIndex := 303, attributes := #[] }, { accessFlags := 24, nameIndex := 19, descriptorIndex := 20, attributes := #[] }, { accessFlags := 24, nameIndex := 89, descriptorIndex := 86, attributes := #[] }, { accessFlags := 24, nameIndex := 85, descriptorIndex := 86, attributes := #[] }, { accessFlags := 18, nameIndex := 207, descriptorIndex := 194, attributes := #[] }, { accessFlags := 25, nameIndex := 316, descriptorIndex := 194, attributes := #[] }, { accessFlags := 25, nameIndex := 318, descriptorIndex := 194, attributes := #[] }, { accessFlags := 26, nameIndex := 320, descriptorIndex := 321, attributes := #[] }])
  fields := #[{ name := "MIN_VALUE", type := .int, accessFlags := 25, slot := 0, constantValue := 0 }, { name := "MAX_VALUE", type := .int, accessFlags := 25, slot := 1, constantValue := 0 }, { name := "TYPE", type := (.object "java/lang/Class"), accessFlags := 25, slot := 2, constantValue := 0 }, { name := "digits", type := (.array .char), accessFlags := 24, slot := 3, constantValue := 0 }, { name := "DigitTens", type := (.array .byte), accessFlags := 24, slot := 4, constantValue := 0 }, { name := "DigitOnes", type := (.array .byte), accessFlags := 24, slot := 5, constantValue := 0 }, { name := "value", type := .int, accessFlags := 18, slot := 0, constantValue := 0 }, { name := "SIZE", type := .int, accessFlags := 25, slot := 6, constantValue := 0 }, { name := "BYTES", type := .int, accessFlags := 25, slot := 7, constantValue := 0 }, { name := "serialVersionUID", type := .long, accessFlags := 26, slot := 8, constantValue := 0 }]
  methods := #[k8m0, k8m1]
  instanceTypes := #[.int]
  staticTypes := #[.int, .int, (.object "java/lang/Class"), (.array .char), (.array .byte), (.array .byte), .int, .int, .long]
  resolved := Array.replicate 453 none
  statics := none }

def pool9 : Array CpInfo := pool [(2, .class_ 4), (1, u "java/lang/Object"), (0, u "<init>"), (0, u "()V"), (0, .class_ 8), (0, u "java/lang/Integer"), (7, .class_ 18), (1, u "java/lang/Integer$IntegerCache"), (0, u "$assertionsDisabled"), (0, u "Z"), (26, u "high"), (0, u "I"), (8, u "archivedCache"), (0, u "[Ljava/lang/Integer;"), (12, u "cache"), (0, u "low")] 27

def k9m0 : Method := { name := "<init>", desc := "()V", sig := { parameters := [], returnType := none }, accessFlags := 2, code := none }
/-- java/lang/Integer$IntegerCache -/
def k9 : Class := { plain "java/lang/Integer$IntegerCache" (some 0) with
  accessFlags := 48
  interfaces := #[]
  cf := some (fileOf pool9 16 #[.nestHost 7] #[{ accessFlags := 2, nameIndex := 5, descriptorIndex := 6, attributes := #[] }] 48 2 #[] #[{ accessFlags := 24, nameIndex := 72, descriptorIndex := 48, attributes := #[] }, { accessFlags := 24, nameIndex := 47, descriptorIndex := 48, attributes := #[] }, { accessFlags := 24, nameIndex := 71, descriptorIndex := 58, attributes := #[] }, { accessFlags := 8, nameIndex := 57, descriptorIndex := 58, attributes := #[] }, { accessFlags := 4120, nameIndex := 19, descriptorIndex := 20, attributes := #[] }])
  fields := #[{ name := "low", type := .int, accessFlags := 24, slot := 0, constantValue := 0 }, { name := "high", type := .int, accessFlags := 24, slot := 1, constantValue := 0 }, { name := "cache", type := (.array (.object "java/lang/Integer")), accessFlags := 24, slot := 2, constantValue := 0 }, { name := "archivedCache", type := (.array (.object "java/lang/Integer")), accessFlags := 8, slot := 3, constantValue := 0 }, { name := "$assertionsDisabled", type := .boolean, accessFlags := 4120, slot := 4, constantValue := 0 }]
  methods := #[k9m0]
  instanceTypes := #[]
  staticTypes := #[.int, .int, (.array (.object "java/lang/Integer")), (.array (.object "java/lang/Integer")), .boolean]
  resolved := Array.replicate 100 none
  statics := some 0 }

def pool10 : Array CpInfo := pool [(1, u "java/lang/Cloneable"), (0, .class_ 1), (0, u "java/lang/Object"), (0, .class_ 3)] 3

/-- java/lang/Cloneable -/
def k10 : Class := { plain "java/lang/Cloneable" (some 0) with
  accessFlags := 1537
  interfaces := #[]
  cf := some (fileOf pool10 2 #[] #[] 1537 4 #[] #[])
  fields := #[]
  methods := #[]
  instanceTypes := #[]
  staticTypes := #[]
  resolved := Array.replicate 8 none
  statics := none }

/-- the primitive byte -/
def k11 : Class := { plain "byte" none with kind := .primitive 'B', accessFlags := 0x411 }
/-- [B -/
def k12 : Class := { plain "[B" (some 0) with kind := .array 11 .byte, interfaces := #[10, 3], accessFlags := 1041 }

/-- the primitive int -/
def k13 : Class := { plain "int" none with kind := .primitive 'I', accessFlags := 0x411 }
/-- [I -/
def k14 : Class := { plain "[I" (some 0) with kind := .array 13 .int, interfaces := #[10, 3], accessFlags := 1041 }

/-- [Ljava/lang/Integer; -/
def k15 : Class := { plain "[Ljava/lang/Integer;" (some 0) with kind := .array 8 (.object "java/lang/Integer"), interfaces := #[10, 3], accessFlags := 1041 }

def heap : Heap := #[{ cls := 9, slots := #[.int 0, .int 127, .ref 1, .null, .int 0], vm := .statics 9 },
  { cls := 15, slots := #[.ref 2, .ref 3, .ref 4, .ref 5, .ref 6, .ref 7, .ref 8, .ref 9, .ref 10, .ref 11, .ref 12, .ref 13, .ref 14, .ref 15, .ref 16, .ref 17, .ref 18, .ref 19, .ref 20, .ref 21, .ref 22, .ref 23, .ref 24, .ref 25, .ref 26, .ref 27, .ref 28, .ref 29, .ref 30, .ref 31, .ref 32, .ref 33, .ref 34, .ref 35, .ref 36, .ref 37, .ref 38, .ref 39, .ref 40, .ref 41, .ref 42, .ref 43, .ref 44, .ref 45, .ref 46, .ref 47, .ref 48, .ref 49, .ref 50, .ref 51, .ref 52, .ref 53, .ref 54, .ref 55, .ref 56, .ref 57, .ref 58, .ref 59, .ref 60, .ref 61, .ref 62, .ref 63, .ref 64, .ref 65, .ref 66, .ref 67, .ref 68, .ref 69, .ref 70, .ref 71, .ref 72, .ref 73, .ref 74, .ref 75, .ref 76, .ref 77, .ref 78, .ref 79, .ref 80, .ref 81, .ref 82, .ref 83, .ref 84, .ref 85, .ref 86, .ref 87, .ref 88, .ref 89, .ref 90, .ref 91, .ref 92, .ref 93, .ref 94, .ref 95, .ref 96, .ref 97, .ref 98, .ref 99, .ref 100, .ref 101, .ref 102, .ref 103, .ref 104, .ref 105, .ref 106, .ref 107, .ref 108, .ref 109, .ref 110, .ref 111, .ref 112, .ref 113, .ref 114, .ref 115, .ref 116, .ref 117, .ref 118, .ref 119, .ref 120, .ref 121, .ref 122, .ref 123, .ref 124, .ref 125, .ref 126, .ref 127, .ref 128, .ref 129, .ref 130, .ref 131, .ref 132, .ref 133, .ref 134, .ref 135, .ref 136, .ref 137, .ref 138, .ref 139, .ref 140, .ref 141, .ref 142, .ref 143, .ref 144, .ref 145, .ref 146, .ref 147, .ref 148, .ref 149, .ref 150, .ref 151, .ref 152, .ref 153, .ref 154, .ref 155, .ref 156, .ref 157, .ref 158, .ref 159, .ref 160, .ref 161, .ref 162, .ref 163, .ref 164, .ref 165, .ref 166, .ref 167, .ref 168, .ref 169, .ref 170, .ref 171, .ref 172, .ref 173, .ref 174, .ref 175, .ref 176, .ref 177, .ref 178, .ref 179, .ref 180, .ref 181, .ref 182, .ref 183, .ref 184, .ref 185, .ref 186, .ref 187, .ref 188, .ref 189, .ref 190, .ref 191, .ref 192, .ref 193, .ref 194, .ref 195, .ref 196, .ref 197, .ref 198, .ref 199, .ref 200, .ref 201, .ref 202, .ref 203, .ref 204, .ref 205, .ref 206, .ref 207, .ref 208, .ref 209, .ref 210, .ref 211, .ref 212, .ref 213, .ref 214, .ref 215, .ref 216, .ref 217, .ref 218, .ref 219, .ref 220, .ref 221, .ref 222, .ref 223, .ref 224, .ref 225, .ref 226, .ref 227, .ref 228, .ref 229, .ref 230, .ref 231, .ref 232, .ref 233, .ref 234, .ref 235, .ref 236, .ref 237, .ref 238, .ref 239, .ref 240, .ref 241, .ref 242, .ref 243, .ref 244, .ref 245, .ref 246, .ref 247, .ref 248, .ref 249, .ref 250, .ref 251, .ref 252, .ref 253, .ref 254, .ref 255, .ref 256, .ref 257], vm := .none },
  { cls := 8, slots := #[.int (-128)], vm := .none },
  { cls := 8, slots := #[.int (-127)], vm := .none },
  { cls := 8, slots := #[.int (-126)], vm := .none },
  { cls := 8, slots := #[.int (-125)], vm := .none },
  { cls := 8, slots := #[.int (-124)], vm := .none },
  { cls := 8, slots := #[.int (-123)], vm := .none },
  { cls := 8, slots := #[.int (-122)], vm := .none },
  { cls := 8, slots := #[.int (-121)], vm := .none },
  { cls := 8, slots := #[.int (-120)], vm := .none },
  { cls := 8, slots := #[.int (-119)], vm := .none },
  { cls := 8, slots := #[.int (-118)], vm := .none },
  { cls := 8, slots := #[.int (-117)], vm := .none },
  { cls := 8, slots := #[.int (-116)], vm := .none },
  { cls := 8, slots := #[.int (-115)], vm := .none },
  { cls := 8, slots := #[.int (-114)], vm := .none },
  { cls := 8, slots := #[.int (-113)], vm := .none },
  { cls := 8, slots := #[.int (-112)], vm := .none },
  { cls := 8, slots := #[.int (-111)], vm := .none },
  { cls := 8, slots := #[.int (-110)], vm := .none },
  { cls := 8, slots := #[.int (-109)], vm := .none },
  { cls := 8, slots := #[.int (-108)], vm := .none },
  { cls := 8, slots := #[.int (-107)], vm := .none },
  { cls := 8, slots := #[.int (-106)], vm := .none },
  { cls := 8, slots := #[.int (-105)], vm := .none },
  { cls := 8, slots := #[.int (-104)], vm := .none },
  { cls := 8, slots := #[.int (-103)], vm := .none },
  { cls := 8, slots := #[.int (-102)], vm := .none },
  { cls := 8, slots := #[.int (-101)], vm := .none },
  { cls := 8, slots := #[.int (-100)], vm := .none },
  { cls := 8, slots := #[.int (-99)], vm := .none },
  { cls := 8, slots := #[.int (-98)], vm := .none },
  { cls := 8, slots := #[.int (-97)], vm := .none },
  { cls := 8, slots := #[.int (-96)], vm := .none },
  { cls := 8, slots := #[.int (-95)], vm := .none },
  { cls := 8, slots := #[.int (-94)], vm := .none },
  { cls := 8, slots := #[.int (-93)], vm := .none },
  { cls := 8, slots := #[.int (-92)], vm := .none },
  { cls := 8, slots := #[.int (-91)], vm := .none },
  { cls := 8, slots := #[.int (-90)], vm := .none },
  { cls := 8, slots := #[.int (-89)], vm := .none },
  { cls := 8, slots := #[.int (-88)], vm := .none },
  { cls := 8, slots := #[.int (-87)], vm := .none },
  { cls := 8, slots := #[.int (-86)], vm := .none },
  { cls := 8, slots := #[.int (-85)], vm := .none },
  { cls := 8, slots := #[.int (-84)], vm := .none },
  { cls := 8, slots := #[.int (-83)], vm := .none },
  { cls := 8, slots := #[.int (-82)], vm := .none },
  { cls := 8, slots := #[.int (-81)], vm := .none },
  { cls := 8, slots := #[.int (-80)], vm := .none },
  { cls := 8, slots := #[.int (-79)], vm := .none },
  { cls := 8, slots := #[.int (-78)], vm := .none },
  { cls := 8, slots := #[.int (-77)], vm := .none },
  { cls := 8, slots := #[.int (-76)], vm := .none },
  { cls := 8, slots := #[.int (-75)], vm := .none },
  { cls := 8, slots := #[.int (-74)], vm := .none },
  { cls := 8, slots := #[.int (-73)], vm := .none },
  { cls := 8, slots := #[.int (-72)], vm := .none },
  { cls := 8, slots := #[.int (-71)], vm := .none },
  { cls := 8, slots := #[.int (-70)], vm := .none },
  { cls := 8, slots := #[.int (-69)], vm := .none },
  { cls := 8, slots := #[.int (-68)], vm := .none },
  { cls := 8, slots := #[.int (-67)], vm := .none },
  { cls := 8, slots := #[.int (-66)], vm := .none },
  { cls := 8, slots := #[.int (-65)], vm := .none },
  { cls := 8, slots := #[.int (-64)], vm := .none },
  { cls := 8, slots := #[.int (-63)], vm := .none },
  { cls := 8, slots := #[.int (-62)], vm := .none },
  { cls := 8, slots := #[.int (-61)], vm := .none },
  { cls := 8, slots := #[.int (-60)], vm := .none },
  { cls := 8, slots := #[.int (-59)], vm := .none },
  { cls := 8, slots := #[.int (-58)], vm := .none },
  { cls := 8, slots := #[.int (-57)], vm := .none },
  { cls := 8, slots := #[.int (-56)], vm := .none },
  { cls := 8, slots := #[.int (-55)], vm := .none },
  { cls := 8, slots := #[.int (-54)], vm := .none },
  { cls := 8, slots := #[.int (-53)], vm := .none },
  { cls := 8, slots := #[.int (-52)], vm := .none },
  { cls := 8, slots := #[.int (-51)], vm := .none },
  { cls := 8, slots := #[.int (-50)], vm := .none },
  { cls := 8, slots := #[.int (-49)], vm := .none },
  { cls := 8, slots := #[.int (-48)], vm := .none },
  { cls := 8, slots := #[.int (-47)], vm := .none },
  { cls := 8, slots := #[.int (-46)], vm := .none },
  { cls := 8, slots := #[.int (-45)], vm := .none },
  { cls := 8, slots := #[.int (-44)], vm := .none },
  { cls := 8, slots := #[.int (-43)], vm := .none },
  { cls := 8, slots := #[.int (-42)], vm := .none },
  { cls := 8, slots := #[.int (-41)], vm := .none },
  { cls := 8, slots := #[.int (-40)], vm := .none },
  { cls := 8, slots := #[.int (-39)], vm := .none },
  { cls := 8, slots := #[.int (-38)], vm := .none },
  { cls := 8, slots := #[.int (-37)], vm := .none },
  { cls := 8, slots := #[.int (-36)], vm := .none },
  { cls := 8, slots := #[.int (-35)], vm := .none },
  { cls := 8, slots := #[.int (-34)], vm := .none },
  { cls := 8, slots := #[.int (-33)], vm := .none },
  { cls := 8, slots := #[.int (-32)], vm := .none },
  { cls := 8, slots := #[.int (-31)], vm := .none },
  { cls := 8, slots := #[.int (-30)], vm := .none },
  { cls := 8, slots := #[.int (-29)], vm := .none },
  { cls := 8, slots := #[.int (-28)], vm := .none },
  { cls := 8, slots := #[.int (-27)], vm := .none },
  { cls := 8, slots := #[.int (-26)], vm := .none },
  { cls := 8, slots := #[.int (-25)], vm := .none },
  { cls := 8, slots := #[.int (-24)], vm := .none },
  { cls := 8, slots := #[.int (-23)], vm := .none },
  { cls := 8, slots := #[.int (-22)], vm := .none },
  { cls := 8, slots := #[.int (-21)], vm := .none },
  { cls := 8, slots := #[.int (-20)], vm := .none },
  { cls := 8, slots := #[.int (-19)], vm := .none },
  { cls := 8, slots := #[.int (-18)], vm := .none },
  { cls := 8, slots := #[.int (-17)], vm := .none },
  { cls := 8, slots := #[.int (-16)], vm := .none },
  { cls := 8, slots := #[.int (-15)], vm := .none },
  { cls := 8, slots := #[.int (-14)], vm := .none },
  { cls := 8, slots := #[.int (-13)], vm := .none },
  { cls := 8, slots := #[.int (-12)], vm := .none },
  { cls := 8, slots := #[.int (-11)], vm := .none },
  { cls := 8, slots := #[.int (-10)], vm := .none },
  { cls := 8, slots := #[.int (-9)], vm := .none },
  { cls := 8, slots := #[.int (-8)], vm := .none },
  { cls := 8, slots := #[.int (-7)], vm := .none },
  { cls := 8, slots := #[.int (-6)], vm := .none },
  { cls := 8, slots := #[.int (-5)], vm := .none },
  { cls := 8, slots := #[.int (-4)], vm := .none },
  { cls := 8, slots := #[.int (-3)], vm := .none },
  { cls := 8, slots := #[.int (-2)], vm := .none },
  { cls := 8, slots := #[.int (-1)], vm := .none },
  { cls := 8, slots := #[.int (0)], vm := .none },
  { cls := 8, slots := #[.int (1)], vm := .none },
  { cls := 8, slots := #[.int (2)], vm := .none },
  { cls := 8, slots := #[.int (3)], vm := .none },
  { cls := 8, slots := #[.int (4)], vm := .none },
  { cls := 8, slots := #[.int (5)], vm := .none },
  { cls := 8, slots := #[.int (6)], vm := .none },
  { cls := 8, slots := #[.int (7)], vm := .none },
  { cls := 8, slots := #[.int (8)], vm := .none },
  { cls := 8, slots := #[.int (9)], vm := .none },
  { cls := 8, slots := #[.int (10)], vm := .none },
  { cls := 8, slots := #[.int (11)], vm := .none },
  { cls := 8, slots := #[.int (12)], vm := .none },
  { cls := 8, slots := #[.int (13)], vm := .none },
  { cls := 8, slots := #[.int (14)], vm := .none },
  { cls := 8, slots := #[.int (15)], vm := .none },
  { cls := 8, slots := #[.int (16)], vm := .none },
  { cls := 8, slots := #[.int (17)], vm := .none },
  { cls := 8, slots := #[.int (18)], vm := .none },
  { cls := 8, slots := #[.int (19)], vm := .none },
  { cls := 8, slots := #[.int (20)], vm := .none },
  { cls := 8, slots := #[.int (21)], vm := .none },
  { cls := 8, slots := #[.int (22)], vm := .none },
  { cls := 8, slots := #[.int (23)], vm := .none },
  { cls := 8, slots := #[.int (24)], vm := .none },
  { cls := 8, slots := #[.int (25)], vm := .none },
  { cls := 8, slots := #[.int (26)], vm := .none },
  { cls := 8, slots := #[.int (27)], vm := .none },
  { cls := 8, slots := #[.int (28)], vm := .none },
  { cls := 8, slots := #[.int (29)], vm := .none },
  { cls := 8, slots := #[.int (30)], vm := .none },
  { cls := 8, slots := #[.int (31)], vm := .none },
  { cls := 8, slots := #[.int (32)], vm := .none },
  { cls := 8, slots := #[.int (33)], vm := .none },
  { cls := 8, slots := #[.int (34)], vm := .none },
  { cls := 8, slots := #[.int (35)], vm := .none },
  { cls := 8, slots := #[.int (36)], vm := .none },
  { cls := 8, slots := #[.int (37)], vm := .none },
  { cls := 8, slots := #[.int (38)], vm := .none },
  { cls := 8, slots := #[.int (39)], vm := .none },
  { cls := 8, slots := #[.int (40)], vm := .none },
  { cls := 8, slots := #[.int (41)], vm := .none },
  { cls := 8, slots := #[.int (42)], vm := .none },
  { cls := 8, slots := #[.int (43)], vm := .none },
  { cls := 8, slots := #[.int (44)], vm := .none },
  { cls := 8, slots := #[.int (45)], vm := .none },
  { cls := 8, slots := #[.int (46)], vm := .none },
  { cls := 8, slots := #[.int (47)], vm := .none },
  { cls := 8, slots := #[.int (48)], vm := .none },
  { cls := 8, slots := #[.int (49)], vm := .none },
  { cls := 8, slots := #[.int (50)], vm := .none },
  { cls := 8, slots := #[.int (51)], vm := .none },
  { cls := 8, slots := #[.int (52)], vm := .none },
  { cls := 8, slots := #[.int (53)], vm := .none },
  { cls := 8, slots := #[.int (54)], vm := .none },
  { cls := 8, slots := #[.int (55)], vm := .none },
  { cls := 8, slots := #[.int (56)], vm := .none },
  { cls := 8, slots := #[.int (57)], vm := .none },
  { cls := 8, slots := #[.int (58)], vm := .none },
  { cls := 8, slots := #[.int (59)], vm := .none },
  { cls := 8, slots := #[.int (60)], vm := .none },
  { cls := 8, slots := #[.int (61)], vm := .none },
  { cls := 8, slots := #[.int (62)], vm := .none },
  { cls := 8, slots := #[.int (63)], vm := .none },
  { cls := 8, slots := #[.int (64)], vm := .none },
  { cls := 8, slots := #[.int (65)], vm := .none },
  { cls := 8, slots := #[.int (66)], vm := .none },
  { cls := 8, slots := #[.int (67)], vm := .none },
  { cls := 8, slots := #[.int (68)], vm := .none },
  { cls := 8, slots := #[.int (69)], vm := .none },
  { cls := 8, slots := #[.int (70)], vm := .none },
  { cls := 8, slots := #[.int (71)], vm := .none },
  { cls := 8, slots := #[.int (72)], vm := .none },
  { cls := 8, slots := #[.int (73)], vm := .none },
  { cls := 8, slots := #[.int (74)], vm := .none },
  { cls := 8, slots := #[.int (75)], vm := .none },
  { cls := 8, slots := #[.int (76)], vm := .none },
  { cls := 8, slots := #[.int (77)], vm := .none },
  { cls := 8, slots := #[.int (78)], vm := .none },
  { cls := 8, slots := #[.int (79)], vm := .none },
  { cls := 8, slots := #[.int (80)], vm := .none },
  { cls := 8, slots := #[.int (81)], vm := .none },
  { cls := 8, slots := #[.int (82)], vm := .none },
  { cls := 8, slots := #[.int (83)], vm := .none },
  { cls := 8, slots := #[.int (84)], vm := .none },
  { cls := 8, slots := #[.int (85)], vm := .none },
  { cls := 8, slots := #[.int (86)], vm := .none },
  { cls := 8, slots := #[.int (87)], vm := .none },
  { cls := 8, slots := #[.int (88)], vm := .none },
  { cls := 8, slots := #[.int (89)], vm := .none },
  { cls := 8, slots := #[.int (90)], vm := .none },
  { cls := 8, slots := #[.int (91)], vm := .none },
  { cls := 8, slots := #[.int (92)], vm := .none },
  { cls := 8, slots := #[.int (93)], vm := .none },
  { cls := 8, slots := #[.int (94)], vm := .none },
  { cls := 8, slots := #[.int (95)], vm := .none },
  { cls := 8, slots := #[.int (96)], vm := .none },
  { cls := 8, slots := #[.int (97)], vm := .none },
  { cls := 8, slots := #[.int (98)], vm := .none },
  { cls := 8, slots := #[.int (99)], vm := .none },
  { cls := 8, slots := #[.int (100)], vm := .none },
  { cls := 8, slots := #[.int (101)], vm := .none },
  { cls := 8, slots := #[.int (102)], vm := .none },
  { cls := 8, slots := #[.int (103)], vm := .none },
  { cls := 8, slots := #[.int (104)], vm := .none },
  { cls := 8, slots := #[.int (105)], vm := .none },
  { cls := 8, slots := #[.int (106)], vm := .none },
  { cls := 8, slots := #[.int (107)], vm := .none },
  { cls := 8, slots := #[.int (108)], vm := .none },
  { cls := 8, slots := #[.int (109)], vm := .none },
  { cls := 8, slots := #[.int (110)], vm := .none },
  { cls := 8, slots := #[.int (111)], vm := .none },
  { cls := 8, slots := #[.int (112)], vm := .none },
  { cls := 8, slots := #[.int (113)], vm := .none },
  { cls := 8, slots := #[.int (114)], vm := .none },
  { cls := 8, slots := #[.int (115)], vm := .none },
  { cls := 8, slots := #[.int (116)], vm := .none },
  { cls := 8, slots := #[.int (117)], vm := .none },
  { cls := 8, slots := #[.int (118)], vm := .none },
  { cls := 8, slots := #[.int (119)], vm := .none },
  { cls := 8, slots := #[.int (120)], vm := .none },
  { cls := 8, slots := #[.int (121)], vm := .none },
  { cls := 8, slots := #[.int (122)], vm := .none },
  { cls := 8, slots := #[.int (123)], vm := .none },
  { cls := 8, slots := #[.int (124)], vm := .none },
  { cls := 8, slots := #[.int (125)], vm := .none },
  { cls := 8, slots := #[.int (126)], vm := .none },
  { cls := 8, slots := #[.int (127)], vm := .none }]
def classes : Array Class := #[k0, k1, k2, k3, k4, k5, k6, k7, k8, k9, k10, k11, k12, k13, k14, k15]
def interned : List (Array UInt16 × Addr) := []
def slotsUsed : Nat := 517
def theMethod : MethodId := ⟨1, 1⟩
def args0 : Array Value := #[.int 5, .int 7, .int 9, .int 3, .int 1]
def aboutOver (below : List Frame) : State where
  vm := { classes := classes, interned := interned.toArray }
  heap := heap
  slotsUsed := slotsUsed
  threads := #[{ frames := .invoking theMethod args0 :: below }]
def below0 : List Frame := [.native { method := ⟨0, 0⟩, args := #[] }]
def about1 : State := aboutOver below0
def p0 : Program := .bare "" "" ""
def e0 : Env := launch0.env 0 0 0
theorem w_frames : about1.frames = Frame.invoking theMethod args0 :: below0 := rfl
set_option maxRecDepth 65536 in
theorem w_args : argsFit about1.vm theMethod args0 = true := by decide +kernel
set_option maxRecDepth 65536 in
theorem w_heap : heapFits about1 = true := by decide +kernel
set_option maxRecDepth 65536 in
theorem w_runnable : about1.curStatus? = some .runnable := by decide +kernel
set_option maxRecDepth 65536 in
theorem w_alone : about1.alone = true := by decide +kernel
set_option maxRecDepth 65536 in
theorem w_named : about1.methodNamed? x = some theMethod := by decide +kernel
set_option maxRecDepth 65536 in
theorem w_hears : about1.hears theMethod below0 = true := by decide +kernel
set_option maxRecDepth 65536 in
theorem w_ripe : about1.ripe theMethod args0 below0 = true := by decide +kernel
theorem w_running : about1.status = .running := rfl
set_option maxRecDepth 65536 in
theorem w_room : about1.hasRoom e0.platform room_1 = true :=
  launch0.hasRoom_least _ room_1 (by decide +kernel) (by decide +kernel) (by decide +kernel) (by decide +kernel) (by decide +kernel) (by decide +kernel)
theorem allAtoms_all (ts : List Jvm.Cond) (a : Array Jvm.Value) (st : Jvm.State) : (allAtoms ts).before a st = ts.all (fun c => c.before a st) := by
  induction ts with
  | nil => rfl
  | cons c t ih =>
    show (Jvm.Cond.and c (allAtoms t)).before a st = _
    rw [Jvm.Cond.before_and, ih, List.all_cons]
def words1 : List Jvm.Cond := Jvm.Cond.code x code maxLocals ret :: tables_1
/-- a 'code' word, met by the world's own term for the bytes: nothing is compared byte by byte -/
theorem code_word {y : MethodName} {bytes : ByteArray} {mx : Nat} {rt : Option FieldType} {a : Array Value} {s : State} {m : MethodId} {meth : Method} {c : Code} (h1 : s.methodNamed? y = some m) (h2 : s.vm.method? m = some meth) (h3 : meth.code = some c) (h4 : c.code = bytes)
    (h5 : (c.maxLocals == mx && c.exceptionTable.isEmpty && decide (c.maxStack ≤ mostOperands) && decide (meth.sig.returnType = rt) && !meth.locks && decide (parseMethodDescriptor y.desc = some meth.sig)) = true) : (Jvm.Cond.code y bytes mx rt).before a s = true := by
  simp only [Bool.and_eq_true, beq_iff_eq, Bool.not_eq_true', decide_eq_true_eq] at h5
  obtain ⟨⟨⟨⟨⟨g1, g2⟩, g3⟩, g4⟩, g5⟩, g6⟩ := h5
  simp [Cond.before, Cond.holds, Cond.value, h1, h2, h3, h4, g1, g2, g3, g4, g5, g6]
def isCode : Jvm.Cond → Bool
  | .code _ _ _ _ => true
  | _ => false
theorem all_split {L : List Jvm.Cond} {P : Jvm.Cond → Bool} (h1 : L.all (fun c => isCode c || P c) = true) (h2 : ∀ c ∈ L.filter isCode, P c = true) : L.all P = true := by
  refine List.all_eq_true.mpr fun c hc => ?_
  have h := List.all_eq_true.mp h1 c hc
  rcases Bool.eq_false_or_eq_true (isCode c) with hi | hi
  · exact h2 c (List.mem_filter.mpr ⟨hc, hi⟩)
  · simpa [hi] using h
set_option maxRecDepth 65536 in
theorem w_c0 : (Jvm.Cond.code x code maxLocals ret).before args0 about1 = true := code_word (m := ⟨1, 1⟩) (meth := k1m1) (c := k1c1) (by decide +kernel) rfl rfl rfl (by decide +kernel)
set_option maxRecDepth 65536 in
theorem w_c1 : (Jvm.Cond.code ({ cls := "com/example/lachesis/lachesis/BerTag", name := "<init>", desc := "(II)V" } : Jvm.MethodName) prog_21_method_1_code (3 : Nat) (Option.none : Option Jvm.ClassFile.FieldType)).before args0 about1 = true := code_word (m := ⟨2, 0⟩) (meth := k2m0) (c := k2c0) (by decide +kernel) rfl rfl rfl (by decide +kernel)
set_option maxRecDepth 65536 in
theorem w_c2 : (Jvm.Cond.code ({ cls := "java/lang/Object", name := "<init>", desc := "()V" } : Jvm.MethodName) object_method_1_code (1 : Nat) (Option.none : Option Jvm.ClassFile.FieldType)).before args0 about1 = true := code_word (m := ⟨0, 0⟩) (meth := k0m0) (c := k0c0) (by decide +kernel) rfl rfl rfl (by decide +kernel)
set_option maxRecDepth 65536 in
theorem w_c3 : (Jvm.Cond.code ({ cls := "com/example/lachesis/lachesis/BerTag", name := "equals", desc := "(Ljava/lang/Object;)Z" } : Jvm.MethodName) prog_21_method_7_code (3 : Nat) (Option.some Jvm.ClassFile.FieldType.boolean)).before args0 about1 = true := code_word (m := ⟨2, 1⟩) (meth := k2m1) (c := k2c1) (by decide +kernel) rfl rfl rfl (by decide +kernel)
set_option maxRecDepth 65536 in
theorem w_c4 : (Jvm.Cond.code ({ cls := "java/lang/Integer", name := "valueOf", desc := "(I)Ljava/lang/Integer;" } : Jvm.MethodName) jdk_33_method_22_code (1 : Nat) (Option.some (Jvm.ClassFile.FieldType.object "java/lang/Integer"))).before args0 about1 = true := code_word (m := ⟨8, 0⟩) (meth := k8m0) (c := k8c0) (by decide +kernel) rfl rfl rfl (by decide +kernel)
set_option maxRecDepth 65536 in
theorem w_c5 : (Jvm.Cond.code ({ cls := "java/lang/Integer", name := "<init>", desc := "(I)V" } : Jvm.MethodName) jdk_33_method_23_code (2 : Nat) (Option.none : Option Jvm.ClassFile.FieldType)).before args0 about1 = true := code_word (m := ⟨8, 1⟩) (meth := k8m1) (c := k8c1) (by decide +kernel) rfl rfl rfl (by decide +kernel)
set_option maxRecDepth 65536 in
theorem w_c6 : (Jvm.Cond.code ({ cls := "java/lang/Number", name := "<init>", desc := "()V" } : Jvm.MethodName) jdk_18_method_1_code (1 : Nat) (Option.none : Option Jvm.ClassFile.FieldType)).before args0 about1 = true := code_word (m := ⟨4, 0⟩) (meth := k4m0) (c := k4c0) (by decide +kernel) rfl rfl rfl (by decide +kernel)
def codes1 : List Jvm.Cond := [Jvm.Cond.code x code maxLocals ret, Jvm.Cond.code ({ cls := "com/example/lachesis/lachesis/BerTag", name := "<init>", desc := "(II)V" } : Jvm.MethodName) prog_21_method_1_code (3 : Nat) (Option.none : Option Jvm.ClassFile.FieldType), Jvm.Cond.code ({ cls := "java/lang/Object", name := "<init>", desc := "()V" } : Jvm.MethodName) object_method_1_code (1 : Nat) (Option.none : Option Jvm.ClassFile.FieldType), Jvm.Cond.code ({ cls := "com/example/lachesis/lachesis/BerTag", name := "equals", desc := "(Ljava/lang/Object;)Z" } : Jvm.MethodName) prog_21_method_7_code (3 : Nat) (Option.some Jvm.ClassFile.FieldType.boolean), Jvm.Cond.code ({ cls := "java/lang/Integer", name := "valueOf", desc := "(I)Ljava/lang/Integer;" } : Jvm.MethodName) jdk_33_method_22_code (1 : Nat) (Option.some (Jvm.ClassFile.FieldType.object "java/lang/Integer")), Jvm.Cond.code ({ cls := "java/lang/Integer", name := "<init>", desc := "(I)V" } : Jvm.MethodName) jdk_33_method_23_code (2 : Nat) (Option.none : Option Jvm.ClassFile.FieldType), Jvm.Cond.code ({ cls := "java/lang/Number", name := "<init>", desc := "()V" } : Jvm.MethodName) jdk_18_method_1_code (1 : Nat) (Option.none : Option Jvm.ClassFile.FieldType)]
set_option maxRecDepth 65536 in
theorem codes_eq : words1.filter isCode = codes1 := rfl
theorem w_codes : ∀ c ∈ words1.filter isCode, c.before args0 about1 = true := by
  rw [codes_eq]
  intro c hc
  simp only [codes1, List.mem_cons, List.not_mem_nil, or_false] at hc
  rcases hc with rfl | rfl | rfl | rfl | rfl | rfl | rfl
  · exact w_c0
  · exact w_c1
  · exact w_c2
  · exact w_c3
  · exact w_c4
  · exact w_c5
  · exact w_c6
set_option maxRecDepth 65536 in
theorem w_t1 : (words1.take 24).all (fun c => isCode c || c.before args0 about1) = true := by decide +kernel
set_option maxRecDepth 65536 in
theorem w_t2 : (words1.drop 24).all (fun c => isCode c || c.before args0 about1) = true := by decide +kernel
theorem w_tables : (allAtoms (Jvm.Cond.code x code maxLocals ret :: tables_1)).before args0 about1 = true := by
  rw [allAtoms_all]
  show words1.all (fun c => c.before args0 about1) = true
  refine all_split ?_ w_codes
  rw [← List.take_append_drop 24 words1, List.all_append, w_t1, w_t2]
  rfl
set_option maxRecDepth 65536 in
theorem w_rest : rest_1_c.before args0 about1 = true := by decide +kernel
set_option maxRecDepth 65536 in
theorem w_case : (Jvm.Cond.and given_1 narrow_1).before args0 about1 = true := by decide +kernel
theorem w_applies : (headSpec (Jvm.Cond.code x code maxLocals ret :: tables_1) room_1).applies x e0.platform about1 = true :=
  (Spec.applies_iff w_frames).mpr ⟨w_running, w_runnable, w_alone, w_named, w_hears, w_ripe, w_room, w_tables⟩
theorem atStart : AtStart classFile x code maxLocals ret World_1 tables_1 room_1 Calls_1 rest_1 Pre_1 launch0 p0 e0 about1 theMethod args0 below0 :=
  ⟨lists_1, trivial, launch0.admits_env _ _ _, launch0.least_env, fairChoices_fair.cas, fairChoices_fair.clock, w_frames, w_args, w_heap, w_applies, trivial, w_rest, w_case⟩
end start1
theorem witness_1 : WitnessClaimed_1 := ⟨start1.p0, start1.e0, start1.about1, start1.theMethod, start1.args0, start1.below0, start1.atStart⟩
end Jvm.Pilot.@@N@@
