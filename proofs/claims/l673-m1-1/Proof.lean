import JvmDerived
import JvmDerived.Pilot.@@N@@Statement
import JvmDerived.Pilot.@@N@@Code
set_option linter.unusedVariables false
set_option linter.unusedSimpArgs false
namespace Jvm.RoadKit
open Sem ClassFile Op Lib Jvm.Stand Jvm.Free Jvm.LawKit
section New
variable {p : Program} {l : Launch} {e : Env} {R : Room} {s : State} {m : MethodId} {args : Array Value} {below : List Frame} {meth : Method} {c : Code} {T : State} {locs : List Loc} {cells slots : Nat}
theorem retI (X : Stand p l e R s m args below meth c T locs cells slots) (hx : p.tables.exec = Jvm.exec) {pc : Nat} {Ls : Array Slot} {z : Int32} {rest : List Value} (hret : meth.sig.returnType = some .int) (hd : decode c.code pc = .ok (.ireturn, 1)) {fs : List Frame}
    (hl : ∀ (f : JFrame) (acts : List Action), f.method = m → f.locked = none → f.entered = [] → (doReturn e (T.setTop f) acts (some (.int z))).1 = T.setFrames fs) : Steps p.tables e below (T.setTop (mkF m pc Ls (.int z :: rest))) (T.setFrames fs) := by
  have hm' : T.vm.method? m = some meth := X.method'
  have hn : narrow .int (.int z) = .int z := rfl
  show Steps p.tables e below (T.setTop { method := m, pc := pc, locals := Ls, stack := _ :: rest, locked := none }) _
  jvm_step X.here [X.here.top, hx, hd, hm', hret, hn]
  first | (intro acts; rw [hl _ acts rfl rfl rfl]) | rw [hl _ _ rfl rfl rfl]
  exact Steps.refl _
end New
end Jvm.RoadKit
namespace Jvm.Pilot.@@N@@
open Jvm Jvm.ClassFile Sem Op Lib Jvm.Free Jvm.Stand Jvm.LawKit Jvm.RoadKit Bundle Jvm.Pilot.@@N@@.Jvm.D
section Own
variable {p : Program} {l : Launch} {e : Env} {R : Room} {s : State} {m : MethodId} {args : Array Value} {below : List Frame} {meth : Method} {c : Code} {T : State} {Z : State} {h : Heap} {n0 kc ks cells slots ml pc pc' pt : Nat} {Q : Option Value → Heap → Prop} {bc : ByteArray} {y : MethodName} {rt : Option FieldType} {L L' : Array Slot} {S : List Value} {a0 : Array Value}
def oG (p : Program) (e : Env) (below : List Frame) (s : State) (n0 kc ks : Nat) (Q : Option Value → Heap → Prop) (U : State) : Prop :=
  ∃ s₂ o, Steps p.tables e below U s₂ ∧ s₂.status = .running ∧ Ended s₂ below o ∧ ∃ v L, o = .returned v ∧ (Q v s₂.heap ∧ Fr n0 L) ∧ FrameEnd s o s₂ L kc ks
def oH (p : Program) (l : Launch) (e : Env) (R : Room) (s : State) (m : MethodId) (args : Array Value) (below : List Frame) (meth : Method) (c : Code) (bc : ByteArray) (ml : Nat) (y : MethodName) (rt : Option FieldType) (Z : State) (n0 : Nat) (T : State) (h : Heap) (cells slots : Nat) : Prop :=
  ∃ locs, Stand p l e R s m args below meth c T locs cells slots ∧ T.heap = h ∧ Fr n0 locs ∧ p.tables.exec = Jvm.exec ∧ c.code = bc ∧ c.maxLocals = ml ∧ Z.Warmed39 s.vm ∧ s.vm.findClass y.cls = some m.cls ∧ meth.name = y.name ∧ meth.sig.returnType = rt ∧ meth.locks = false ∧ n0 ≤ s.heap.size
theorem oG.go {U U' : State} (f : ∀ t, Steps p.tables e below U' t → Steps p.tables e below U t) (k : oG p e below s n0 kc ks Q U') : oG p e below s n0 kc ks Q U := by
  obtain ⟨s2, o, h1, r⟩ := k
  exact ⟨s2, o, f _ h1, r⟩
theorem oG.mono {U : State} {Q' : Option Value → Heap → Prop} (k : oG p e below s n0 kc ks Q' U) (f : ∀ v h, Q' v h → Q v h) : oG p e below s n0 kc ks Q U := by
  obtain ⟨s2, o, h1, h2, h3, v, L, h4, ⟨h5, h6⟩, h7⟩ := k
  exact ⟨s2, o, h1, h2, h3, v, L, h4, ⟨f _ _ h5, h6⟩, h7⟩
theorem oH.le (H : oH p l e R s m args below meth c bc ml y rt Z n0 T h cells slots) : n0 ≤ h.size := by
  obtain ⟨locs, X, eT, N, -, -, -, -, -, -, -, -, hn⟩ := H
  have q : s.heap.size ≤ T.heap.size := X.same.2.1
  rw [← eT]; exact Nat.le_trans hn q
theorem oH.more {cells' slots' : Nat} (H : oH p l e R s m args below meth c bc ml y rt Z n0 T h cells slots) (hc : cells ≤ cells') (hs : slots ≤ slots') : oH p l e R s m args below meth c bc ml y rt Z n0 T h cells' slots' := by
  obtain ⟨locs, X, r⟩ := H
  exact ⟨locs, X.more hc hs, r⟩
/-- a method's contract: called with these arguments at the heap h0 it comes back with Q, within the room -/
def oC (l : Launch) (Z : State) (n0 : Nat) (y : MethodName) (bc : ByteArray) (ml : Nat) (rt : Option FieldType) (rm : Room) (kc ks : Nat) (as' : Array Value) (h0 : Heap) (Q : Option Value → Heap → Prop) : Prop :=
  ∀ ws : List Jvm.Cond, MetFree l y (head1 (Jvm.Cond.code y bc ml rt :: ws) rm) (fun a U => a = as' ∧ Z.Warmed39 U.vm ∧ U.heap = h0) (fun _ _ _ _ _ => True) (fun _ U o U' => ∃ v L, o = .returned v ∧ (Q v U'.heap ∧ Fr n0 L) ∧ FrameEnd U o U' L kc ks)
theorem oC.of {rm : Room} {as' : Array Value} {h0 : Heap} (hpl : plainFor y = true) (hn : n0 ≤ h0.size) (hef : ∀ m, entryFrame m as' ml = mkF m 0 L [])
    (body : ∀ (p : Program) (e : Env) (s : State) (m : MethodId) (below : List Frame) (meth : Method) (c : Code) (T : State), oH p l e rm s m as' below meth c bc ml y rt Z n0 T h0 0 0 → oG p e below s n0 kc ks Q (T.setTop (mkF m 0 L []))) : oC l Z n0 y bc ml rt rm kc ks as' h0 Q := by
  intro ws
  refine MetFree.of_bodySF hpl hisR ?_
  intro p e s m args below meth c s₁ Bd hml0 hP hK
  obtain ⟨rfl, hZ, hh⟩ := hP
  have X0 : Stand p l e rm s m args below meth c s₁ [] 0 0 := Stand.of_body Bd
  have e0 : s₁.heap = h0 := by rw [← hh, Bd.state]; rfl
  have k := body p e s m below meth c s₁ ⟨[], X0, e0, Fr.nil n0, Bd.exec, Bd.bytes, hml0, hZ, findClass_of_methodNamed Bd.named, (name_of_methodNamed Bd.named Bd.method).1, Bd.returns, Bd.notSynchronized, by rw [hh]; exact hn⟩
  rw [hef m]; exact k
theorem oC.mono {rm : Room} {as' : Array Value} {h0 : Heap} {Q' : Option Value → Heap → Prop} (k : oC l Z n0 y bc ml rt rm kc ks as' h0 Q') (f : ∀ v h, Q' v h → Q v h) : oC l Z n0 y bc ml rt rm kc ks as' h0 Q := by
  intro ws p e h1 h2 h3 s m args below h4 h5 h6 h7
  obtain ⟨n, o, a1, a2, a3, v, L, a4, ⟨a5, a6⟩, a7⟩ := k ws p e h1 h2 h3 s m args below h4 h5 h6 h7
  exact ⟨n, o, a1, a2, a3, v, L, a4, ⟨f _ _ a5, a6⟩, a7⟩
theorem o_aloadN (H : oH p l e R s m args below meth c bc ml y rt Z n0 T h cells slots) {k : Fin 4} {v : Value} (hl : L[k.val]? = some (.val v)) (hv : v.isRef = true) (hd : decode bc pc = .ok (.aload_n k, 1)) (hp : pc + 1 = pc') (k : oG p e below s n0 kc ks Q (T.setTop (mkF m pc' L (v :: S)))) : oG p e below s n0 kc ks Q (T.setTop (mkF m pc L S)) := by
  obtain ⟨locs, X, eT, N, hx, hby, hml, hZ, hown, hnm, hret, hlk, hn⟩ := H
  subst hp
  exact oG.go (fun t hr => XS.aloadN X.here hx rfl (hb hby hd) hl hv hr) k
theorem o_iloadN (H : oH p l e R s m args below meth c bc ml y rt Z n0 T h cells slots) {k : Fin 4} {v : Int32} (hl : L[k.val]? = some (.val (.int v))) (hd : decode bc pc = .ok (.iload_n k, 1)) (hp : pc + 1 = pc') (k : oG p e below s n0 kc ks Q (T.setTop (mkF m pc' L (.int v :: S)))) : oG p e below s n0 kc ks Q (T.setTop (mkF m pc L S)) := by
  obtain ⟨locs, X, eT, N, hx, hby, hml, hZ, hown, hnm, hret, hlk, hn⟩ := H
  subst hp
  exact oG.go (fun t hr => XS.iloadN X.here hx rfl (hb hby hd) hl hr) k
theorem o_lloadN (H : oH p l e R s m args below meth c bc ml y rt Z n0 T h cells slots) {k : Fin 4} {v : Int64} (hl : L[k.val]? = some (.val (.long v))) (hd : decode bc pc = .ok (.lload_n k, 1)) (hp : pc + 1 = pc') (k : oG p e below s n0 kc ks Q (T.setTop (mkF m pc' L (.long v :: S)))) : oG p e below s n0 kc ks Q (T.setTop (mkF m pc L S)) := by
  obtain ⟨locs, X, eT, N, hx, hby, hml, hZ, hown, hnm, hret, hlk, hn⟩ := H
  subst hp
  exact oG.go (fun t hr => XT.lloadN X.here hx rfl (hb hby hd) hl hr) k
theorem o_astoreN (H : oH p l e R s m args below meth c bc ml y rt Z n0 T h cells slots) {k : Fin 4} {v : Value} (hl : storeLocals L k.val v = some L') (hv : v.isRef = true) (hd : decode bc pc = .ok (.astore_n k, 1)) (hp : pc + 1 = pc') (k : oG p e below s n0 kc ks Q (T.setTop (mkF m pc' L' S))) : oG p e below s n0 kc ks Q (T.setTop (mkF m pc L (v :: S))) := by
  obtain ⟨locs, X, eT, N, hx, hby, hml, hZ, hown, hnm, hret, hlk, hn⟩ := H
  subst hp
  exact oG.go (fun t hr => XS.astoreN X.here hx rfl (hb hby hd) rfl hv hl hr) k
theorem o_istoreN (H : oH p l e R s m args below meth c bc ml y rt Z n0 T h cells slots) {k : Fin 4} {v : Int32} (hl : storeLocals L k.val (.int v) = some L') (hd : decode bc pc = .ok (.istore_n k, 1)) (hp : pc + 1 = pc') (k : oG p e below s n0 kc ks Q (T.setTop (mkF m pc' L' S))) : oG p e below s n0 kc ks Q (T.setTop (mkF m pc L (.int v :: S))) := by
  obtain ⟨locs, X, eT, N, hx, hby, hml, hZ, hown, hnm, hret, hlk, hn⟩ := H
  subst hp
  exact oG.go (fun t hr => XS.istoreN X.here hx rfl (hb hby hd) rfl hl hr) k
theorem o_lstoreN (H : oH p l e R s m args below meth c bc ml y rt Z n0 T h cells slots) {k : Fin 4} {v : Int64} (hl : storeLocals L k.val (.long v) = some L') (hd : decode bc pc = .ok (.lstore_n k, 1)) (hp : pc + 1 = pc') (k : oG p e below s n0 kc ks Q (T.setTop (mkF m pc' L' S))) : oG p e below s n0 kc ks Q (T.setTop (mkF m pc L (.long v :: S))) := by
  obtain ⟨locs, X, eT, N, hx, hby, hml, hZ, hown, hnm, hret, hlk, hn⟩ := H
  subst hp
  exact oG.go (fun t hr => XT.lstoreN X.here hx rfl (hb hby hd) rfl hl hr) k
theorem o_aload (H : oH p l e R s m args below meth c bc ml y rt Z n0 T h cells slots) {k : Nat} {v : Value} (hl : L[k]? = some (.val v)) (hv : v.isRef = true) (hd : decode bc pc = .ok (.aload k, 2)) (hp : pc + 2 = pc') (k : oG p e below s n0 kc ks Q (T.setTop (mkF m pc' L (v :: S)))) : oG p e below s n0 kc ks Q (T.setTop (mkF m pc L S)) := by
  obtain ⟨locs, X, eT, N, hx, hby, hml, hZ, hown, hnm, hret, hlk, hn⟩ := H
  subst hp
  exact oG.go (fun t hr => XS.aload X.here hx rfl (hb hby hd) hl hv hr) k
theorem o_iload (H : oH p l e R s m args below meth c bc ml y rt Z n0 T h cells slots) {k : Nat} {v : Int32} (hl : L[k]? = some (.val (.int v))) (hd : decode bc pc = .ok (.iload k, 2)) (hp : pc + 2 = pc') (k : oG p e below s n0 kc ks Q (T.setTop (mkF m pc' L (.int v :: S)))) : oG p e below s n0 kc ks Q (T.setTop (mkF m pc L S)) := by
  obtain ⟨locs, X, eT, N, hx, hby, hml, hZ, hown, hnm, hret, hlk, hn⟩ := H
  subst hp
  exact oG.go (fun t hr => XS.iload X.here hx rfl (hb hby hd) hl hr) k
theorem o_lload (H : oH p l e R s m args below meth c bc ml y rt Z n0 T h cells slots) {k : Nat} {v : Int64} (hl : L[k]? = some (.val (.long v))) (hd : decode bc pc = .ok (.lload k, 2)) (hp : pc + 2 = pc') (k : oG p e below s n0 kc ks Q (T.setTop (mkF m pc' L (.long v :: S)))) : oG p e below s n0 kc ks Q (T.setTop (mkF m pc L S)) := by
  obtain ⟨locs, X, eT, N, hx, hby, hml, hZ, hown, hnm, hret, hlk, hn⟩ := H
  subst hp
  exact oG.go (fun t hr => XT.lload X.here hx rfl (hb hby hd) hl hr) k
theorem o_astore (H : oH p l e R s m args below meth c bc ml y rt Z n0 T h cells slots) {k : Nat} {v : Value} (hl : storeLocals L k v = some L') (hv : v.isRef = true) (hd : decode bc pc = .ok (.astore k, 2)) (hp : pc + 2 = pc') (k : oG p e below s n0 kc ks Q (T.setTop (mkF m pc' L' S))) : oG p e below s n0 kc ks Q (T.setTop (mkF m pc L (v :: S))) := by
  obtain ⟨locs, X, eT, N, hx, hby, hml, hZ, hown, hnm, hret, hlk, hn⟩ := H
  subst hp
  exact oG.go (fun t hr => XS.astore X.here hx rfl (hb hby hd) rfl hv hl hr) k
theorem o_istore (H : oH p l e R s m args below meth c bc ml y rt Z n0 T h cells slots) {k : Nat} {v : Int32} (hl : storeLocals L k (.int v) = some L') (hd : decode bc pc = .ok (.istore k, 2)) (hp : pc + 2 = pc') (k : oG p e below s n0 kc ks Q (T.setTop (mkF m pc' L' S))) : oG p e below s n0 kc ks Q (T.setTop (mkF m pc L (.int v :: S))) := by
  obtain ⟨locs, X, eT, N, hx, hby, hml, hZ, hown, hnm, hret, hlk, hn⟩ := H
  subst hp
  exact oG.go (fun t hr => XS.istore X.here hx rfl (hb hby hd) rfl hl hr) k
theorem o_lstore (H : oH p l e R s m args below meth c bc ml y rt Z n0 T h cells slots) {k : Nat} {v : Int64} (hl : storeLocals L k (.long v) = some L') (hd : decode bc pc = .ok (.lstore k, 2)) (hp : pc + 2 = pc') (k : oG p e below s n0 kc ks Q (T.setTop (mkF m pc' L' S))) : oG p e below s n0 kc ks Q (T.setTop (mkF m pc L (.long v :: S))) := by
  obtain ⟨locs, X, eT, N, hx, hby, hml, hZ, hown, hnm, hret, hlk, hn⟩ := H
  subst hp
  exact oG.go (fun t hr => XT.lstore X.here hx rfl (hb hby hd) rfl hl hr) k
theorem o_iconst (H : oH p l e R s m args below meth c bc ml y rt Z n0 T h cells slots) {i : Int} (v : Int32) (hv : Int32.ofInt i = v) (hd : decode bc pc = .ok (.iconst i, 1)) (hp : pc + 1 = pc') (k : oG p e below s n0 kc ks Q (T.setTop (mkF m pc' L (.int v :: S)))) : oG p e below s n0 kc ks Q (T.setTop (mkF m pc L S)) := by
  obtain ⟨locs, X, eT, N, hx, hby, hml, hZ, hown, hnm, hret, hlk, hn⟩ := H
  subst hp
  exact oG.go (fun t hr => XT.iconstV X.here hx rfl v (hb hby hd) hv hr) k
theorem o_bipush (H : oH p l e R s m args below meth c bc ml y rt Z n0 T h cells slots) {i : Int} (v : Int32) (hv : (Int8.ofInt i).toInt32 = v) (hd : decode bc pc = .ok (.bipush i, 2)) (hp : pc + 2 = pc') (k : oG p e below s n0 kc ks Q (T.setTop (mkF m pc' L (.int v :: S)))) : oG p e below s n0 kc ks Q (T.setTop (mkF m pc L S)) := by
  obtain ⟨locs, X, eT, N, hx, hby, hml, hZ, hown, hnm, hret, hlk, hn⟩ := H
  subst hp
  exact oG.go (fun t hr => XT.bipushV X.here hx rfl v (hb hby hd) hv hr) k
theorem o_sipush (H : oH p l e R s m args below meth c bc ml y rt Z n0 T h cells slots) {i : Int} (v : Int32) (hv : (Int16.ofInt i).toInt32 = v) (hd : decode bc pc = .ok (.sipush i, 3)) (hp : pc + 3 = pc') (k : oG p e below s n0 kc ks Q (T.setTop (mkF m pc' L (.int v :: S)))) : oG p e below s n0 kc ks Q (T.setTop (mkF m pc L S)) := by
  obtain ⟨locs, X, eT, N, hx, hby, hml, hZ, hown, hnm, hret, hlk, hn⟩ := H
  subst hp
  exact oG.go (fun t hr => XT.sipushV X.here hx rfl v (hb hby hd) hv hr) k
theorem o_lconst (H : oH p l e R s m args below meth c bc ml y rt Z n0 T h cells slots) {i : Fin 2} (v : Int64) (hv : Int64.ofNat i = v) (hd : decode bc pc = .ok (.lconst i, 1)) (hp : pc + 1 = pc') (k : oG p e below s n0 kc ks Q (T.setTop (mkF m pc' L (.long v :: S)))) : oG p e below s n0 kc ks Q (T.setTop (mkF m pc L S)) := by
  obtain ⟨locs, X, eT, N, hx, hby, hml, hZ, hown, hnm, hret, hlk, hn⟩ := H
  subst hp
  exact oG.go (fun t hr => XT.lconstV X.here hx rfl v (hb hby hd) hv hr) k
theorem o_aconst_null (H : oH p l e R s m args below meth c bc ml y rt Z n0 T h cells slots)   (hd : decode bc pc = .ok (.aconst_null, 1)) (hp : pc + 1 = pc') (k : oG p e below s n0 kc ks Q (T.setTop (mkF m pc' L (.null :: S)))) : oG p e below s n0 kc ks Q (T.setTop (mkF m pc L S)) := by
  obtain ⟨locs, X, eT, N, hx, hby, hml, hZ, hown, hnm, hret, hlk, hn⟩ := H
  subst hp
  exact oG.go (fun t hr => XS.aconstNull X.here hx rfl (hb hby hd) hr) k
theorem o_iadd (H : oH p l e R s m args below meth c bc ml y rt Z n0 T h cells slots) {x z : Int32}  (hd : decode bc pc = .ok (.iadd, 1)) (hp : pc + 1 = pc') (k : oG p e below s n0 kc ks Q (T.setTop (mkF m pc' L (.int (x + z) :: S)))) : oG p e below s n0 kc ks Q (T.setTop (mkF m pc L (.int z :: .int x :: S))) := by
  obtain ⟨locs, X, eT, N, hx, hby, hml, hZ, hown, hnm, hret, hlk, hn⟩ := H
  subst hp
  exact oG.go (fun t hr => XS.iadd X.here hx rfl (hb hby hd) rfl hr) k
theorem o_isub (H : oH p l e R s m args below meth c bc ml y rt Z n0 T h cells slots) {x z : Int32}  (hd : decode bc pc = .ok (.isub, 1)) (hp : pc + 1 = pc') (k : oG p e below s n0 kc ks Q (T.setTop (mkF m pc' L (.int (x - z) :: S)))) : oG p e below s n0 kc ks Q (T.setTop (mkF m pc L (.int z :: .int x :: S))) := by
  obtain ⟨locs, X, eT, N, hx, hby, hml, hZ, hown, hnm, hret, hlk, hn⟩ := H
  subst hp
  exact oG.go (fun t hr => XS.isub X.here hx rfl (hb hby hd) rfl hr) k
theorem o_imul (H : oH p l e R s m args below meth c bc ml y rt Z n0 T h cells slots) {x z : Int32}  (hd : decode bc pc = .ok (.imul, 1)) (hp : pc + 1 = pc') (k : oG p e below s n0 kc ks Q (T.setTop (mkF m pc' L (.int (x * z) :: S)))) : oG p e below s n0 kc ks Q (T.setTop (mkF m pc L (.int z :: .int x :: S))) := by
  obtain ⟨locs, X, eT, N, hx, hby, hml, hZ, hown, hnm, hret, hlk, hn⟩ := H
  subst hp
  exact oG.go (fun t hr => XS.imul X.here hx rfl (hb hby hd) rfl hr) k
theorem o_iand (H : oH p l e R s m args below meth c bc ml y rt Z n0 T h cells slots) {x z : Int32}  (hd : decode bc pc = .ok (.iand, 1)) (hp : pc + 1 = pc') (k : oG p e below s n0 kc ks Q (T.setTop (mkF m pc' L (.int (x &&& z) :: S)))) : oG p e below s n0 kc ks Q (T.setTop (mkF m pc L (.int z :: .int x :: S))) := by
  obtain ⟨locs, X, eT, N, hx, hby, hml, hZ, hown, hnm, hret, hlk, hn⟩ := H
  subst hp
  exact oG.go (fun t hr => XS.iand X.here hx rfl (hb hby hd) rfl hr) k
theorem o_ior (H : oH p l e R s m args below meth c bc ml y rt Z n0 T h cells slots) {x z : Int32}  (hd : decode bc pc = .ok (.ior, 1)) (hp : pc + 1 = pc') (k : oG p e below s n0 kc ks Q (T.setTop (mkF m pc' L (.int (x ||| z) :: S)))) : oG p e below s n0 kc ks Q (T.setTop (mkF m pc L (.int z :: .int x :: S))) := by
  obtain ⟨locs, X, eT, N, hx, hby, hml, hZ, hown, hnm, hret, hlk, hn⟩ := H
  subst hp
  exact oG.go (fun t hr => XT.ior X.here hx rfl (hb hby hd) rfl hr) k
theorem o_ixor (H : oH p l e R s m args below meth c bc ml y rt Z n0 T h cells slots) {x z : Int32}  (hd : decode bc pc = .ok (.ixor, 1)) (hp : pc + 1 = pc') (k : oG p e below s n0 kc ks Q (T.setTop (mkF m pc' L (.int (x ^^^ z) :: S)))) : oG p e below s n0 kc ks Q (T.setTop (mkF m pc L (.int z :: .int x :: S))) := by
  obtain ⟨locs, X, eT, N, hx, hby, hml, hZ, hown, hnm, hret, hlk, hn⟩ := H
  subst hp
  exact oG.go (fun t hr => XT.ixor X.here hx rfl (hb hby hd) rfl hr) k
theorem o_ishl (H : oH p l e R s m args below meth c bc ml y rt Z n0 T h cells slots) {x z : Int32}  (hd : decode bc pc = .ok (.ishl, 1)) (hp : pc + 1 = pc') (k : oG p e below s n0 kc ks Q (T.setTop (mkF m pc' L (.int (x <<< (z &&& 31)) :: S)))) : oG p e below s n0 kc ks Q (T.setTop (mkF m pc L (.int z :: .int x :: S))) := by
  obtain ⟨locs, X, eT, N, hx, hby, hml, hZ, hown, hnm, hret, hlk, hn⟩ := H
  subst hp
  exact oG.go (fun t hr => XT.ishl X.here hx rfl (hb hby hd) rfl hr) k
theorem o_ishr (H : oH p l e R s m args below meth c bc ml y rt Z n0 T h cells slots) {x z : Int32}  (hd : decode bc pc = .ok (.ishr, 1)) (hp : pc + 1 = pc') (k : oG p e below s n0 kc ks Q (T.setTop (mkF m pc' L (.int (x >>> (z &&& 31)) :: S)))) : oG p e below s n0 kc ks Q (T.setTop (mkF m pc L (.int z :: .int x :: S))) := by
  obtain ⟨locs, X, eT, N, hx, hby, hml, hZ, hown, hnm, hret, hlk, hn⟩ := H
  subst hp
  exact oG.go (fun t hr => XT.ishr X.here hx rfl (hb hby hd) rfl hr) k
theorem o_iushr (H : oH p l e R s m args below meth c bc ml y rt Z n0 T h cells slots) {x z : Int32}  (hd : decode bc pc = .ok (.iushr, 1)) (hp : pc + 1 = pc') (k : oG p e below s n0 kc ks Q (T.setTop (mkF m pc' L (.int (XT.ushr x z) :: S)))) : oG p e below s n0 kc ks Q (T.setTop (mkF m pc L (.int z :: .int x :: S))) := by
  obtain ⟨locs, X, eT, N, hx, hby, hml, hZ, hown, hnm, hret, hlk, hn⟩ := H
  subst hp
  exact oG.go (fun t hr => XT.iushr X.here hx rfl (hb hby hd) rfl hr) k
theorem o_ladd (H : oH p l e R s m args below meth c bc ml y rt Z n0 T h cells slots) {x z : Int64}  (hd : decode bc pc = .ok (.ladd, 1)) (hp : pc + 1 = pc') (k : oG p e below s n0 kc ks Q (T.setTop (mkF m pc' L (.long (x + z) :: S)))) : oG p e below s n0 kc ks Q (T.setTop (mkF m pc L (.long z :: .long x :: S))) := by
  obtain ⟨locs, X, eT, N, hx, hby, hml, hZ, hown, hnm, hret, hlk, hn⟩ := H
  subst hp
  exact oG.go (fun t hr => XT.ladd X.here hx rfl (hb hby hd) rfl hr) k
theorem o_lsub (H : oH p l e R s m args below meth c bc ml y rt Z n0 T h cells slots) {x z : Int64}  (hd : decode bc pc = .ok (.lsub, 1)) (hp : pc + 1 = pc') (k : oG p e below s n0 kc ks Q (T.setTop (mkF m pc' L (.long (x - z) :: S)))) : oG p e below s n0 kc ks Q (T.setTop (mkF m pc L (.long z :: .long x :: S))) := by
  obtain ⟨locs, X, eT, N, hx, hby, hml, hZ, hown, hnm, hret, hlk, hn⟩ := H
  subst hp
  exact oG.go (fun t hr => XT.lsub X.here hx rfl (hb hby hd) rfl hr) k
theorem o_lmul (H : oH p l e R s m args below meth c bc ml y rt Z n0 T h cells slots) {x z : Int64}  (hd : decode bc pc = .ok (.lmul, 1)) (hp : pc + 1 = pc') (k : oG p e below s n0 kc ks Q (T.setTop (mkF m pc' L (.long (x * z) :: S)))) : oG p e below s n0 kc ks Q (T.setTop (mkF m pc L (.long z :: .long x :: S))) := by
  obtain ⟨locs, X, eT, N, hx, hby, hml, hZ, hown, hnm, hret, hlk, hn⟩ := H
  subst hp
  exact oG.go (fun t hr => XT.lmul X.here hx rfl (hb hby hd) rfl hr) k
theorem o_land (H : oH p l e R s m args below meth c bc ml y rt Z n0 T h cells slots) {x z : Int64}  (hd : decode bc pc = .ok (.land, 1)) (hp : pc + 1 = pc') (k : oG p e below s n0 kc ks Q (T.setTop (mkF m pc' L (.long (x &&& z) :: S)))) : oG p e below s n0 kc ks Q (T.setTop (mkF m pc L (.long z :: .long x :: S))) := by
  obtain ⟨locs, X, eT, N, hx, hby, hml, hZ, hown, hnm, hret, hlk, hn⟩ := H
  subst hp
  exact oG.go (fun t hr => XT.land X.here hx rfl (hb hby hd) rfl hr) k
theorem o_lor (H : oH p l e R s m args below meth c bc ml y rt Z n0 T h cells slots) {x z : Int64}  (hd : decode bc pc = .ok (.lor, 1)) (hp : pc + 1 = pc') (k : oG p e below s n0 kc ks Q (T.setTop (mkF m pc' L (.long (x ||| z) :: S)))) : oG p e below s n0 kc ks Q (T.setTop (mkF m pc L (.long z :: .long x :: S))) := by
  obtain ⟨locs, X, eT, N, hx, hby, hml, hZ, hown, hnm, hret, hlk, hn⟩ := H
  subst hp
  exact oG.go (fun t hr => XT.lor X.here hx rfl (hb hby hd) rfl hr) k
theorem o_lxor (H : oH p l e R s m args below meth c bc ml y rt Z n0 T h cells slots) {x z : Int64}  (hd : decode bc pc = .ok (.lxor, 1)) (hp : pc + 1 = pc') (k : oG p e below s n0 kc ks Q (T.setTop (mkF m pc' L (.long (x ^^^ z) :: S)))) : oG p e below s n0 kc ks Q (T.setTop (mkF m pc L (.long z :: .long x :: S))) := by
  obtain ⟨locs, X, eT, N, hx, hby, hml, hZ, hown, hnm, hret, hlk, hn⟩ := H
  subst hp
  exact oG.go (fun t hr => XT.lxor X.here hx rfl (hb hby hd) rfl hr) k
theorem o_lcmp (H : oH p l e R s m args below meth c bc ml y rt Z n0 T h cells slots) {x z : Int64}  (hd : decode bc pc = .ok (.lcmp, 1)) (hp : pc + 1 = pc') (k : oG p e below s n0 kc ks Q (T.setTop (mkF m pc' L (.int (XT.cmpL x z) :: S)))) : oG p e below s n0 kc ks Q (T.setTop (mkF m pc L (.long z :: .long x :: S))) := by
  obtain ⟨locs, X, eT, N, hx, hby, hml, hZ, hown, hnm, hret, hlk, hn⟩ := H
  subst hp
  exact oG.go (fun t hr => XT.lcmp X.here hx rfl (hb hby hd) rfl hr) k
theorem o_lshl (H : oH p l e R s m args below meth c bc ml y rt Z n0 T h cells slots) {x : Int64} {z : Int32}  (hd : decode bc pc = .ok (.lshl, 1)) (hp : pc + 1 = pc') (k : oG p e below s n0 kc ks Q (T.setTop (mkF m pc' L (.long (x <<< (z.toInt64 &&& 63)) :: S)))) : oG p e below s n0 kc ks Q (T.setTop (mkF m pc L (.int z :: .long x :: S))) := by
  obtain ⟨locs, X, eT, N, hx, hby, hml, hZ, hown, hnm, hret, hlk, hn⟩ := H
  subst hp
  exact oG.go (fun t hr => XT.lshl X.here hx rfl (hb hby hd) rfl hr) k
theorem o_lshr (H : oH p l e R s m args below meth c bc ml y rt Z n0 T h cells slots) {x : Int64} {z : Int32}  (hd : decode bc pc = .ok (.lshr, 1)) (hp : pc + 1 = pc') (k : oG p e below s n0 kc ks Q (T.setTop (mkF m pc' L (.long (x >>> (z.toInt64 &&& 63)) :: S)))) : oG p e below s n0 kc ks Q (T.setTop (mkF m pc L (.int z :: .long x :: S))) := by
  obtain ⟨locs, X, eT, N, hx, hby, hml, hZ, hown, hnm, hret, hlk, hn⟩ := H
  subst hp
  exact oG.go (fun t hr => XT.lshr X.here hx rfl (hb hby hd) rfl hr) k
theorem o_lushr (H : oH p l e R s m args below meth c bc ml y rt Z n0 T h cells slots) {x : Int64} {z : Int32}  (hd : decode bc pc = .ok (.lushr, 1)) (hp : pc + 1 = pc') (k : oG p e below s n0 kc ks Q (T.setTop (mkF m pc' L (.long (XT.ushrL x z) :: S)))) : oG p e below s n0 kc ks Q (T.setTop (mkF m pc L (.int z :: .long x :: S))) := by
  obtain ⟨locs, X, eT, N, hx, hby, hml, hZ, hown, hnm, hret, hlk, hn⟩ := H
  subst hp
  exact oG.go (fun t hr => XT.lushr X.here hx rfl (hb hby hd) rfl hr) k
theorem o_idiv (H : oH p l e R s m args below meth c bc ml y rt Z n0 T h cells slots) {x z : Int32} (hz : z ≠ 0) (hd : decode bc pc = .ok (.idiv, 1)) (hp : pc + 1 = pc') (k : oG p e below s n0 kc ks Q (T.setTop (mkF m pc' L (.int (x / z) :: S)))) : oG p e below s n0 kc ks Q (T.setTop (mkF m pc L (.int z :: .int x :: S))) := by
  obtain ⟨locs, X, eT, N, hx, hby, hml, hZ, hown, hnm, hret, hlk, hn⟩ := H
  subst hp
  exact oG.go (fun t hr => XS.idiv X.here hx rfl (hb hby hd) rfl hz hr) k
theorem o_irem (H : oH p l e R s m args below meth c bc ml y rt Z n0 T h cells slots) {x z : Int32} (hz : z ≠ 0) (hd : decode bc pc = .ok (.irem, 1)) (hp : pc + 1 = pc') (k : oG p e below s n0 kc ks Q (T.setTop (mkF m pc' L (.int (x % z) :: S)))) : oG p e below s n0 kc ks Q (T.setTop (mkF m pc L (.int z :: .int x :: S))) := by
  obtain ⟨locs, X, eT, N, hx, hby, hml, hZ, hown, hnm, hret, hlk, hn⟩ := H
  subst hp
  exact oG.go (fun t hr => iremM X hx rfl (hb hby hd) rfl hz hr) k
theorem o_ineg (H : oH p l e R s m args below meth c bc ml y rt Z n0 T h cells slots) {x : Int32}  (hd : decode bc pc = .ok (.ineg, 1)) (hp : pc + 1 = pc') (k : oG p e below s n0 kc ks Q (T.setTop (mkF m pc' L (.int (-x) :: S)))) : oG p e below s n0 kc ks Q (T.setTop (mkF m pc L (.int x :: S))) := by
  obtain ⟨locs, X, eT, N, hx, hby, hml, hZ, hown, hnm, hret, hlk, hn⟩ := H
  subst hp
  exact oG.go (fun t hr => XS.ineg X.here hx rfl (hb hby hd) rfl hr) k
theorem o_lneg (H : oH p l e R s m args below meth c bc ml y rt Z n0 T h cells slots) {x : Int64}  (hd : decode bc pc = .ok (.lneg, 1)) (hp : pc + 1 = pc') (k : oG p e below s n0 kc ks Q (T.setTop (mkF m pc' L (.long (-x) :: S)))) : oG p e below s n0 kc ks Q (T.setTop (mkF m pc L (.long x :: S))) := by
  obtain ⟨locs, X, eT, N, hx, hby, hml, hZ, hown, hnm, hret, hlk, hn⟩ := H
  subst hp
  exact oG.go (fun t hr => XT.lneg X.here hx rfl (hb hby hd) rfl hr) k
theorem o_i2l (H : oH p l e R s m args below meth c bc ml y rt Z n0 T h cells slots) {x : Int32}  (hd : decode bc pc = .ok (.i2l, 1)) (hp : pc + 1 = pc') (k : oG p e below s n0 kc ks Q (T.setTop (mkF m pc' L (.long x.toInt64 :: S)))) : oG p e below s n0 kc ks Q (T.setTop (mkF m pc L (.int x :: S))) := by
  obtain ⟨locs, X, eT, N, hx, hby, hml, hZ, hown, hnm, hret, hlk, hn⟩ := H
  subst hp
  exact oG.go (fun t hr => XT.i2l X.here hx rfl (hb hby hd) rfl hr) k
theorem o_l2i (H : oH p l e R s m args below meth c bc ml y rt Z n0 T h cells slots) {x : Int64}  (hd : decode bc pc = .ok (.l2i, 1)) (hp : pc + 1 = pc') (k : oG p e below s n0 kc ks Q (T.setTop (mkF m pc' L (.int x.toInt32 :: S)))) : oG p e below s n0 kc ks Q (T.setTop (mkF m pc L (.long x :: S))) := by
  obtain ⟨locs, X, eT, N, hx, hby, hml, hZ, hown, hnm, hret, hlk, hn⟩ := H
  subst hp
  exact oG.go (fun t hr => XT.l2i X.here hx rfl (hb hby hd) rfl hr) k
theorem o_i2b (H : oH p l e R s m args below meth c bc ml y rt Z n0 T h cells slots) {x : Int32}  (hd : decode bc pc = .ok (.i2b, 1)) (hp : pc + 1 = pc') (k : oG p e below s n0 kc ks Q (T.setTop (mkF m pc' L (.int x.toInt8.toInt32 :: S)))) : oG p e below s n0 kc ks Q (T.setTop (mkF m pc L (.int x :: S))) := by
  obtain ⟨locs, X, eT, N, hx, hby, hml, hZ, hown, hnm, hret, hlk, hn⟩ := H
  subst hp
  exact oG.go (fun t hr => XT.i2b X.here hx rfl (hb hby hd) rfl hr) k
theorem o_i2c (H : oH p l e R s m args below meth c bc ml y rt Z n0 T h cells slots) {x : Int32}  (hd : decode bc pc = .ok (.i2c, 1)) (hp : pc + 1 = pc') (k : oG p e below s n0 kc ks Q (T.setTop (mkF m pc' L (.int x.toUInt32.toUInt16.toUInt32.toInt32 :: S)))) : oG p e below s n0 kc ks Q (T.setTop (mkF m pc L (.int x :: S))) := by
  obtain ⟨locs, X, eT, N, hx, hby, hml, hZ, hown, hnm, hret, hlk, hn⟩ := H
  subst hp
  exact oG.go (fun t hr => XT.i2c X.here hx rfl (hb hby hd) rfl hr) k
theorem o_i2s (H : oH p l e R s m args below meth c bc ml y rt Z n0 T h cells slots) {x : Int32}  (hd : decode bc pc = .ok (.i2s, 1)) (hp : pc + 1 = pc') (k : oG p e below s n0 kc ks Q (T.setTop (mkF m pc' L (.int x.toInt16.toInt32 :: S)))) : oG p e below s n0 kc ks Q (T.setTop (mkF m pc L (.int x :: S))) := by
  obtain ⟨locs, X, eT, N, hx, hby, hml, hZ, hown, hnm, hret, hlk, hn⟩ := H
  subst hp
  exact oG.go (fun t hr => XT.i2s X.here hx rfl (hb hby hd) rfl hr) k
theorem o_iinc (H : oH p l e R s m args below meth c bc ml y rt Z n0 T h cells slots) {j : Nat} {cst : Int} {x : Int32} (v u : Int32) (hv : Int32.ofInt cst = v) (hu : x + v = u) (hl : L[j]? = some (.val (.int x))) (hl' : storeLocals L j (.int u) = some L') (hd : decode bc pc = .ok (.iinc j cst, 3)) (hp : pc + 3 = pc') (k : oG p e below s n0 kc ks Q (T.setTop (mkF m pc' L' S))) : oG p e below s n0 kc ks Q (T.setTop (mkF m pc L S)) := by
  obtain ⟨locs, X, eT, N, hx, hby, hml, hZ, hown, hnm, hret, hlk, hn⟩ := H
  subst hp
  exact oG.go (fun t hr => XT.iincV X.here hx rfl v (hb hby hd) hv hl (hu ▸ hl') hr) k
theorem o_fold {x : Int32} (v : Int32) (hv : x = v) (k : oG p e below s n0 kc ks Q (T.setTop (mkF m pc L (.int v :: S)))) : oG p e below s n0 kc ks Q (T.setTop (mkF m pc L (.int x :: S))) := hv ▸ k
theorem o_foldJ {x : Int64} (v : Int64) (hv : x = v) (k : oG p e below s n0 kc ks Q (T.setTop (mkF m pc L (.long v :: S)))) : oG p e below s n0 kc ks Q (T.setTop (mkF m pc L (.long x :: S))) := hv ▸ k
theorem o_dup (H : oH p l e R s m args below meth c bc ml y rt Z n0 T h cells slots) {v : Value} (hc : v.category = 1) (hd : decode bc pc = .ok (.dup, 1)) (hp : pc + 1 = pc') (k : oG p e below s n0 kc ks Q (T.setTop (mkF m pc' L (v :: v :: S)))) : oG p e below s n0 kc ks Q (T.setTop (mkF m pc L (v :: S))) := by
  obtain ⟨locs, X, eT, N, hx, hby, hml, hZ, hown, hnm, hret, hlk, hn⟩ := H
  subst hp
  exact oG.go (fun t hr => XS.dup X.here hx rfl (hb hby hd) rfl hc hr) k
theorem o_dup_x1 (H : oH p l e R s m args below meth c bc ml y rt Z n0 T h cells slots) {v w : Value} (hc : v.category = 1) (hc' : w.category = 1) (hd : decode bc pc = .ok (.dup_x1, 1)) (hp : pc + 1 = pc') (k : oG p e below s n0 kc ks Q (T.setTop (mkF m pc' L (v :: w :: v :: S)))) : oG p e below s n0 kc ks Q (T.setTop (mkF m pc L (v :: w :: S))) := by
  obtain ⟨locs, X, eT, N, hx, hby, hml, hZ, hown, hnm, hret, hlk, hn⟩ := H
  subst hp
  exact oG.go (fun t hr => XT.dupX1 X.here hx rfl (hb hby hd) rfl hc hc' hr) k
theorem o_dup2 (H : oH p l e R s m args below meth c bc ml y rt Z n0 T h cells slots) {v w : Value} (hc : v.category = 1) (hc' : w.category = 1) (hd : decode bc pc = .ok (.dup2, 1)) (hp : pc + 1 = pc') (k : oG p e below s n0 kc ks Q (T.setTop (mkF m pc' L (v :: w :: v :: w :: S)))) : oG p e below s n0 kc ks Q (T.setTop (mkF m pc L (v :: w :: S))) := by
  obtain ⟨locs, X, eT, N, hx, hby, hml, hZ, hown, hnm, hret, hlk, hn⟩ := H
  subst hp
  exact oG.go (fun t hr => XT.dup2 X.here hx rfl (hb hby hd) rfl hc hc' hr) k
theorem o_dup2L (H : oH p l e R s m args below meth c bc ml y rt Z n0 T h cells slots) {v : Int64}  (hd : decode bc pc = .ok (.dup2, 1)) (hp : pc + 1 = pc') (k : oG p e below s n0 kc ks Q (T.setTop (mkF m pc' L (.long v :: .long v :: S)))) : oG p e below s n0 kc ks Q (T.setTop (mkF m pc L (.long v :: S))) := by
  obtain ⟨locs, X, eT, N, hx, hby, hml, hZ, hown, hnm, hret, hlk, hn⟩ := H
  subst hp
  exact oG.go (fun t hr => XT.dup2L X.here hx rfl (hb hby hd) rfl hr) k
theorem o_pop (H : oH p l e R s m args below meth c bc ml y rt Z n0 T h cells slots) {v : Value} (hc : v.category = 1) (hd : decode bc pc = .ok (.pop, 1)) (hp : pc + 1 = pc') (k : oG p e below s n0 kc ks Q (T.setTop (mkF m pc' L S))) : oG p e below s n0 kc ks Q (T.setTop (mkF m pc L (v :: S))) := by
  obtain ⟨locs, X, eT, N, hx, hby, hml, hZ, hown, hnm, hret, hlk, hn⟩ := H
  subst hp
  exact oG.go (fun t hr => XT.pop X.here hx rfl (hb hby hd) rfl hc hr) k
theorem o_one {i : Nat} {v : Value} {sl : Slot} (hs : L[i]? = some sl) (h1 : sl = .unset ∨ ∃ z, sl = .val (.int z)) (hv : v.category = 1) : storeLocals L i v = some (L.setIfInBounds i (.val v)) :=
  XS.store1 hs (h1.imp id fun ⟨z, q⟩ => ⟨.int z, q, rfl⟩) hv
theorem o_len {vs : List Int32} : (vs.map Value.int).length.toInt32 = Int32.ofNat vs.length := by rw [List.length_map]
theorem o_get {vs : List Int32} {i : Nat} (h : i < vs.length) : (vs.map Value.int)[i]? = some (.int (vs[i]'h)) := by simp [h]
theorem o_ofNat {n : Nat} (h : n < 2147483648) : (Int32.ofNat n).toInt = n := Int32.toInt_ofNat_of_lt (by omega)
theorem o_lenJ {vs : List Int64} : (vs.map Value.long).length.toInt32 = Int32.ofNat vs.length := by rw [List.length_map]
theorem o_getJ {vs : List Int64} {i : Nat} (h : i < vs.length) : (vs.map Value.long)[i]? = some (.long (vs[i]'h)) := by simp [h]
theorem o_succ {n : Nat} : Int32.ofNat n + 1 = Int32.ofNat (n + 1) := (Int32.ofNat_add n 1).symm
theorem o_bt {A : Prop} [Decidable A] {b : Int32} (e : b = if A then (1 : Int32) else 0) (q : ¬ b = 0) : A := by
  by_cases a : A
  · exact a
  · rw [if_neg a] at e; exact absurd e q
theorem o_bf {A : Prop} [Decidable A] {b : Int32} (e : b = if A then (1 : Int32) else 0) (q : b = 0) : ¬ A := by
  intro a
  exact absurd ((e.trans (if_pos a)).symm.trans q) (by decide)
theorem o_goto (H : oH p l e R s m args below meth c bc ml y rt Z n0 T h cells slots) {o : Int} (hd : decode bc pc = .ok (.goto o, 3)) (ho : 0 ≤ (pc : Int) + o) (hp : ((pc : Int) + o).toNat = pt) (k : oG p e below s n0 kc ks Q (T.setTop (mkF m pt L S))) : oG p e below s n0 kc ks Q (T.setTop (mkF m pc L S)) := by
  obtain ⟨locs, X, eT, N, hx, hby, hml, hZ, hown, hnm, hret, hlk, hn⟩ := H
  exact oG.go (fun t hr => XS.goto X.here hx rfl rfl (hb hby hd) ho hp hr) k
theorem o_icmp_eq (H : oH p l e R s m args below meth c bc ml y rt Z n0 T h cells slots) {o : Int} {x z : Int32} (hd : decode bc pc = .ok (.if_icmp .eq o, 3)) (ho : 0 ≤ (pc : Int) + o) (hp : ((pc : Int) + o).toNat = pt) (hp' : pc + 3 = pc') (kt : x = z → oG p e below s n0 kc ks Q (T.setTop (mkF m pt L S))) (kf : ¬ x = z → oG p e below s n0 kc ks Q (T.setTop (mkF m pc' L S))) : oG p e below s n0 kc ks Q (T.setTop (mkF m pc L (.int z :: .int x :: S))) := by
  by_cases q : x = z
  · have k := kt q
    obtain ⟨locs, X, eT, N, hx, hby, hml, hZ, hown, hnm, hret, hlk, hn⟩ := H
    exact oG.go (fun t hr => XS.icmpYes X.here hx rfl rfl (hb hby hd) rfl (XT.ii_eq_t q) ho hp hr) k
  · have k := kf q
    obtain ⟨locs, X, eT, N, hx, hby, hml, hZ, hown, hnm, hret, hlk, hn⟩ := H
    subst hp'
    exact oG.go (fun t hr => XS.icmpNo X.here hx rfl (hb hby hd) rfl (XT.ii_eq_f q) hr) k
theorem o_if_eq (H : oH p l e R s m args below meth c bc ml y rt Z n0 T h cells slots) {o : Int} {x : Int32} (hd : decode bc pc = .ok (.ifCond .eq o, 3)) (ho : 0 ≤ (pc : Int) + o) (hp : ((pc : Int) + o).toNat = pt) (hp' : pc + 3 = pc') (kt : x = 0 → oG p e below s n0 kc ks Q (T.setTop (mkF m pt L S))) (kf : ¬ x = 0 → oG p e below s n0 kc ks Q (T.setTop (mkF m pc' L S))) : oG p e below s n0 kc ks Q (T.setTop (mkF m pc L (.int x :: S))) := by
  by_cases q : x = 0
  · have k := kt q
    obtain ⟨locs, X, eT, N, hx, hby, hml, hZ, hown, hnm, hret, hlk, hn⟩ := H
    exact oG.go (fun t hr => XS.ifYes X.here hx rfl rfl (hb hby hd) rfl (XT.i0_eq_t q) ho hp hr) k
  · have k := kf q
    obtain ⟨locs, X, eT, N, hx, hby, hml, hZ, hown, hnm, hret, hlk, hn⟩ := H
    subst hp'
    exact oG.go (fun t hr => XS.ifNo X.here hx rfl (hb hby hd) rfl (XT.i0_eq_f q) hr) k
theorem o_ifl_eq (H : oH p l e R s m args below meth c bc ml y rt Z n0 T h cells slots) {o : Int} {x z : Int64} (hd : decode bc pc = .ok (.ifCond .eq o, 3)) (ho : 0 ≤ (pc : Int) + o) (hp : ((pc : Int) + o).toNat = pt) (hp' : pc + 3 = pc') (kt : x = z → oG p e below s n0 kc ks Q (T.setTop (mkF m pt L S))) (kf : ¬ x = z → oG p e below s n0 kc ks Q (T.setTop (mkF m pc' L S))) : oG p e below s n0 kc ks Q (T.setTop (mkF m pc L (.int (XT.cmpL x z) :: S))) := by
  by_cases q : x = z
  · have k := kt q
    obtain ⟨locs, X, eT, N, hx, hby, hml, hZ, hown, hnm, hret, hlk, hn⟩ := H
    exact oG.go (fun t hr => XS.ifYes X.here hx rfl rfl (hb hby hd) rfl (XT.ll_eq_t q) ho hp hr) k
  · have k := kf q
    obtain ⟨locs, X, eT, N, hx, hby, hml, hZ, hown, hnm, hret, hlk, hn⟩ := H
    subst hp'
    exact oG.go (fun t hr => XS.ifNo X.here hx rfl (hb hby hd) rfl (XT.ll_eq_f q) hr) k
theorem o_icmp_ne (H : oH p l e R s m args below meth c bc ml y rt Z n0 T h cells slots) {o : Int} {x z : Int32} (hd : decode bc pc = .ok (.if_icmp .ne o, 3)) (ho : 0 ≤ (pc : Int) + o) (hp : ((pc : Int) + o).toNat = pt) (hp' : pc + 3 = pc') (kt : ¬ x = z → oG p e below s n0 kc ks Q (T.setTop (mkF m pt L S))) (kf : x = z → oG p e below s n0 kc ks Q (T.setTop (mkF m pc' L S))) : oG p e below s n0 kc ks Q (T.setTop (mkF m pc L (.int z :: .int x :: S))) := by
  by_cases q : ¬ x = z
  · have k := kt q
    obtain ⟨locs, X, eT, N, hx, hby, hml, hZ, hown, hnm, hret, hlk, hn⟩ := H
    exact oG.go (fun t hr => XS.icmpYes X.here hx rfl rfl (hb hby hd) rfl (XT.ii_ne_t q) ho hp hr) k
  · have k := kf (Classical.not_not.mp q)
    obtain ⟨locs, X, eT, N, hx, hby, hml, hZ, hown, hnm, hret, hlk, hn⟩ := H
    subst hp'
    exact oG.go (fun t hr => XS.icmpNo X.here hx rfl (hb hby hd) rfl (XT.ii_ne_f (Classical.not_not.mp q)) hr) k
theorem o_if_ne (H : oH p l e R s m args below meth c bc ml y rt Z n0 T h cells slots) {o : Int} {x : Int32} (hd : decode bc pc = .ok (.ifCond .ne o, 3)) (ho : 0 ≤ (pc : Int) + o) (hp : ((pc : Int) + o).toNat = pt) (hp' : pc + 3 = pc') (kt : ¬ x = 0 → oG p e below s n0 kc ks Q (T.setTop (mkF m pt L S))) (kf : x = 0 → oG p e below s n0 kc ks Q (T.setTop (mkF m pc' L S))) : oG p e below s n0 kc ks Q (T.setTop (mkF m pc L (.int x :: S))) := by
  by_cases q : ¬ x = 0
  · have k := kt q
    obtain ⟨locs, X, eT, N, hx, hby, hml, hZ, hown, hnm, hret, hlk, hn⟩ := H
    exact oG.go (fun t hr => XS.ifYes X.here hx rfl rfl (hb hby hd) rfl (XT.i0_ne_t q) ho hp hr) k
  · have k := kf (Classical.not_not.mp q)
    obtain ⟨locs, X, eT, N, hx, hby, hml, hZ, hown, hnm, hret, hlk, hn⟩ := H
    subst hp'
    exact oG.go (fun t hr => XS.ifNo X.here hx rfl (hb hby hd) rfl (XT.i0_ne_f (Classical.not_not.mp q)) hr) k
theorem o_ifl_ne (H : oH p l e R s m args below meth c bc ml y rt Z n0 T h cells slots) {o : Int} {x z : Int64} (hd : decode bc pc = .ok (.ifCond .ne o, 3)) (ho : 0 ≤ (pc : Int) + o) (hp : ((pc : Int) + o).toNat = pt) (hp' : pc + 3 = pc') (kt : ¬ x = z → oG p e below s n0 kc ks Q (T.setTop (mkF m pt L S))) (kf : x = z → oG p e below s n0 kc ks Q (T.setTop (mkF m pc' L S))) : oG p e below s n0 kc ks Q (T.setTop (mkF m pc L (.int (XT.cmpL x z) :: S))) := by
  by_cases q : ¬ x = z
  · have k := kt q
    obtain ⟨locs, X, eT, N, hx, hby, hml, hZ, hown, hnm, hret, hlk, hn⟩ := H
    exact oG.go (fun t hr => XS.ifYes X.here hx rfl rfl (hb hby hd) rfl (XT.ll_ne_t q) ho hp hr) k
  · have k := kf (Classical.not_not.mp q)
    obtain ⟨locs, X, eT, N, hx, hby, hml, hZ, hown, hnm, hret, hlk, hn⟩ := H
    subst hp'
    exact oG.go (fun t hr => XS.ifNo X.here hx rfl (hb hby hd) rfl (XT.ll_ne_f (Classical.not_not.mp q)) hr) k
theorem o_icmp_lt (H : oH p l e R s m args below meth c bc ml y rt Z n0 T h cells slots) {o : Int} {x z : Int32} (hd : decode bc pc = .ok (.if_icmp .lt o, 3)) (ho : 0 ≤ (pc : Int) + o) (hp : ((pc : Int) + o).toNat = pt) (hp' : pc + 3 = pc') (kt : x < z → oG p e below s n0 kc ks Q (T.setTop (mkF m pt L S))) (kf : ¬ x < z → oG p e below s n0 kc ks Q (T.setTop (mkF m pc' L S))) : oG p e below s n0 kc ks Q (T.setTop (mkF m pc L (.int z :: .int x :: S))) := by
  by_cases q : x < z
  · have k := kt q
    obtain ⟨locs, X, eT, N, hx, hby, hml, hZ, hown, hnm, hret, hlk, hn⟩ := H
    exact oG.go (fun t hr => XS.icmpYes X.here hx rfl rfl (hb hby hd) rfl (XT.ii_lt_t q) ho hp hr) k
  · have k := kf q
    obtain ⟨locs, X, eT, N, hx, hby, hml, hZ, hown, hnm, hret, hlk, hn⟩ := H
    subst hp'
    exact oG.go (fun t hr => XS.icmpNo X.here hx rfl (hb hby hd) rfl (XT.ii_lt_f q) hr) k
theorem o_if_lt (H : oH p l e R s m args below meth c bc ml y rt Z n0 T h cells slots) {o : Int} {x : Int32} (hd : decode bc pc = .ok (.ifCond .lt o, 3)) (ho : 0 ≤ (pc : Int) + o) (hp : ((pc : Int) + o).toNat = pt) (hp' : pc + 3 = pc') (kt : x < 0 → oG p e below s n0 kc ks Q (T.setTop (mkF m pt L S))) (kf : ¬ x < 0 → oG p e below s n0 kc ks Q (T.setTop (mkF m pc' L S))) : oG p e below s n0 kc ks Q (T.setTop (mkF m pc L (.int x :: S))) := by
  by_cases q : x < 0
  · have k := kt q
    obtain ⟨locs, X, eT, N, hx, hby, hml, hZ, hown, hnm, hret, hlk, hn⟩ := H
    exact oG.go (fun t hr => XS.ifYes X.here hx rfl rfl (hb hby hd) rfl (XT.i0_lt_t q) ho hp hr) k
  · have k := kf q
    obtain ⟨locs, X, eT, N, hx, hby, hml, hZ, hown, hnm, hret, hlk, hn⟩ := H
    subst hp'
    exact oG.go (fun t hr => XS.ifNo X.here hx rfl (hb hby hd) rfl (XT.i0_lt_f q) hr) k
theorem o_ifl_lt (H : oH p l e R s m args below meth c bc ml y rt Z n0 T h cells slots) {o : Int} {x z : Int64} (hd : decode bc pc = .ok (.ifCond .lt o, 3)) (ho : 0 ≤ (pc : Int) + o) (hp : ((pc : Int) + o).toNat = pt) (hp' : pc + 3 = pc') (kt : x < z → oG p e below s n0 kc ks Q (T.setTop (mkF m pt L S))) (kf : ¬ x < z → oG p e below s n0 kc ks Q (T.setTop (mkF m pc' L S))) : oG p e below s n0 kc ks Q (T.setTop (mkF m pc L (.int (XT.cmpL x z) :: S))) := by
  by_cases q : x < z
  · have k := kt q
    obtain ⟨locs, X, eT, N, hx, hby, hml, hZ, hown, hnm, hret, hlk, hn⟩ := H
    exact oG.go (fun t hr => XS.ifYes X.here hx rfl rfl (hb hby hd) rfl (XT.ll_lt_t q) ho hp hr) k
  · have k := kf q
    obtain ⟨locs, X, eT, N, hx, hby, hml, hZ, hown, hnm, hret, hlk, hn⟩ := H
    subst hp'
    exact oG.go (fun t hr => XS.ifNo X.here hx rfl (hb hby hd) rfl (XT.ll_lt_f q) hr) k
theorem o_icmp_ge (H : oH p l e R s m args below meth c bc ml y rt Z n0 T h cells slots) {o : Int} {x z : Int32} (hd : decode bc pc = .ok (.if_icmp .ge o, 3)) (ho : 0 ≤ (pc : Int) + o) (hp : ((pc : Int) + o).toNat = pt) (hp' : pc + 3 = pc') (kt : ¬ x < z → oG p e below s n0 kc ks Q (T.setTop (mkF m pt L S))) (kf : x < z → oG p e below s n0 kc ks Q (T.setTop (mkF m pc' L S))) : oG p e below s n0 kc ks Q (T.setTop (mkF m pc L (.int z :: .int x :: S))) := by
  by_cases q : ¬ x < z
  · have k := kt q
    obtain ⟨locs, X, eT, N, hx, hby, hml, hZ, hown, hnm, hret, hlk, hn⟩ := H
    exact oG.go (fun t hr => XS.icmpYes X.here hx rfl rfl (hb hby hd) rfl (XT.ii_ge_t q) ho hp hr) k
  · have k := kf (Classical.not_not.mp q)
    obtain ⟨locs, X, eT, N, hx, hby, hml, hZ, hown, hnm, hret, hlk, hn⟩ := H
    subst hp'
    exact oG.go (fun t hr => XS.icmpNo X.here hx rfl (hb hby hd) rfl (XT.ii_ge_f (Classical.not_not.mp q)) hr) k
theorem o_if_ge (H : oH p l e R s m args below meth c bc ml y rt Z n0 T h cells slots) {o : Int} {x : Int32} (hd : decode bc pc = .ok (.ifCond .ge o, 3)) (ho : 0 ≤ (pc : Int) + o) (hp : ((pc : Int) + o).toNat = pt) (hp' : pc + 3 = pc') (kt : ¬ x < 0 → oG p e below s n0 kc ks Q (T.setTop (mkF m pt L S))) (kf : x < 0 → oG p e below s n0 kc ks Q (T.setTop (mkF m pc' L S))) : oG p e below s n0 kc ks Q (T.setTop (mkF m pc L (.int x :: S))) := by
  by_cases q : ¬ x < 0
  · have k := kt q
    obtain ⟨locs, X, eT, N, hx, hby, hml, hZ, hown, hnm, hret, hlk, hn⟩ := H
    exact oG.go (fun t hr => XS.ifYes X.here hx rfl rfl (hb hby hd) rfl (XT.i0_ge_t q) ho hp hr) k
  · have k := kf (Classical.not_not.mp q)
    obtain ⟨locs, X, eT, N, hx, hby, hml, hZ, hown, hnm, hret, hlk, hn⟩ := H
    subst hp'
    exact oG.go (fun t hr => XS.ifNo X.here hx rfl (hb hby hd) rfl (XT.i0_ge_f (Classical.not_not.mp q)) hr) k
theorem o_ifl_ge (H : oH p l e R s m args below meth c bc ml y rt Z n0 T h cells slots) {o : Int} {x z : Int64} (hd : decode bc pc = .ok (.ifCond .ge o, 3)) (ho : 0 ≤ (pc : Int) + o) (hp : ((pc : Int) + o).toNat = pt) (hp' : pc + 3 = pc') (kt : ¬ x < z → oG p e below s n0 kc ks Q (T.setTop (mkF m pt L S))) (kf : x < z → oG p e below s n0 kc ks Q (T.setTop (mkF m pc' L S))) : oG p e below s n0 kc ks Q (T.setTop (mkF m pc L (.int (XT.cmpL x z) :: S))) := by
  by_cases q : ¬ x < z
  · have k := kt q
    obtain ⟨locs, X, eT, N, hx, hby, hml, hZ, hown, hnm, hret, hlk, hn⟩ := H
    exact oG.go (fun t hr => XS.ifYes X.here hx rfl rfl (hb hby hd) rfl (XT.ll_ge_t q) ho hp hr) k
  · have k := kf (Classical.not_not.mp q)
    obtain ⟨locs, X, eT, N, hx, hby, hml, hZ, hown, hnm, hret, hlk, hn⟩ := H
    subst hp'
    exact oG.go (fun t hr => XS.ifNo X.here hx rfl (hb hby hd) rfl (XT.ll_ge_f (Classical.not_not.mp q)) hr) k
theorem o_icmp_gt (H : oH p l e R s m args below meth c bc ml y rt Z n0 T h cells slots) {o : Int} {x z : Int32} (hd : decode bc pc = .ok (.if_icmp .gt o, 3)) (ho : 0 ≤ (pc : Int) + o) (hp : ((pc : Int) + o).toNat = pt) (hp' : pc + 3 = pc') (kt : z < x → oG p e below s n0 kc ks Q (T.setTop (mkF m pt L S))) (kf : ¬ z < x → oG p e below s n0 kc ks Q (T.setTop (mkF m pc' L S))) : oG p e below s n0 kc ks Q (T.setTop (mkF m pc L (.int z :: .int x :: S))) := by
  by_cases q : z < x
  · have k := kt q
    obtain ⟨locs, X, eT, N, hx, hby, hml, hZ, hown, hnm, hret, hlk, hn⟩ := H
    exact oG.go (fun t hr => XS.icmpYes X.here hx rfl rfl (hb hby hd) rfl (XT.ii_gt_t q) ho hp hr) k
  · have k := kf q
    obtain ⟨locs, X, eT, N, hx, hby, hml, hZ, hown, hnm, hret, hlk, hn⟩ := H
    subst hp'
    exact oG.go (fun t hr => XS.icmpNo X.here hx rfl (hb hby hd) rfl (XT.ii_gt_f q) hr) k
theorem o_if_gt (H : oH p l e R s m args below meth c bc ml y rt Z n0 T h cells slots) {o : Int} {x : Int32} (hd : decode bc pc = .ok (.ifCond .gt o, 3)) (ho : 0 ≤ (pc : Int) + o) (hp : ((pc : Int) + o).toNat = pt) (hp' : pc + 3 = pc') (kt : 0 < x → oG p e below s n0 kc ks Q (T.setTop (mkF m pt L S))) (kf : ¬ 0 < x → oG p e below s n0 kc ks Q (T.setTop (mkF m pc' L S))) : oG p e below s n0 kc ks Q (T.setTop (mkF m pc L (.int x :: S))) := by
  by_cases q : 0 < x
  · have k := kt q
    obtain ⟨locs, X, eT, N, hx, hby, hml, hZ, hown, hnm, hret, hlk, hn⟩ := H
    exact oG.go (fun t hr => XS.ifYes X.here hx rfl rfl (hb hby hd) rfl (XT.i0_gt_t q) ho hp hr) k
  · have k := kf q
    obtain ⟨locs, X, eT, N, hx, hby, hml, hZ, hown, hnm, hret, hlk, hn⟩ := H
    subst hp'
    exact oG.go (fun t hr => XS.ifNo X.here hx rfl (hb hby hd) rfl (XT.i0_gt_f q) hr) k
theorem o_ifl_gt (H : oH p l e R s m args below meth c bc ml y rt Z n0 T h cells slots) {o : Int} {x z : Int64} (hd : decode bc pc = .ok (.ifCond .gt o, 3)) (ho : 0 ≤ (pc : Int) + o) (hp : ((pc : Int) + o).toNat = pt) (hp' : pc + 3 = pc') (kt : z < x → oG p e below s n0 kc ks Q (T.setTop (mkF m pt L S))) (kf : ¬ z < x → oG p e below s n0 kc ks Q (T.setTop (mkF m pc' L S))) : oG p e below s n0 kc ks Q (T.setTop (mkF m pc L (.int (XT.cmpL x z) :: S))) := by
  by_cases q : z < x
  · have k := kt q
    obtain ⟨locs, X, eT, N, hx, hby, hml, hZ, hown, hnm, hret, hlk, hn⟩ := H
    exact oG.go (fun t hr => XS.ifYes X.here hx rfl rfl (hb hby hd) rfl (XT.ll_gt_t q) ho hp hr) k
  · have k := kf q
    obtain ⟨locs, X, eT, N, hx, hby, hml, hZ, hown, hnm, hret, hlk, hn⟩ := H
    subst hp'
    exact oG.go (fun t hr => XS.ifNo X.here hx rfl (hb hby hd) rfl (XT.ll_gt_f q) hr) k
theorem o_icmp_le (H : oH p l e R s m args below meth c bc ml y rt Z n0 T h cells slots) {o : Int} {x z : Int32} (hd : decode bc pc = .ok (.if_icmp .le o, 3)) (ho : 0 ≤ (pc : Int) + o) (hp : ((pc : Int) + o).toNat = pt) (hp' : pc + 3 = pc') (kt : ¬ z < x → oG p e below s n0 kc ks Q (T.setTop (mkF m pt L S))) (kf : z < x → oG p e below s n0 kc ks Q (T.setTop (mkF m pc' L S))) : oG p e below s n0 kc ks Q (T.setTop (mkF m pc L (.int z :: .int x :: S))) := by
  by_cases q : ¬ z < x
  · have k := kt q
    obtain ⟨locs, X, eT, N, hx, hby, hml, hZ, hown, hnm, hret, hlk, hn⟩ := H
    exact oG.go (fun t hr => XS.icmpYes X.here hx rfl rfl (hb hby hd) rfl (XT.ii_le_t q) ho hp hr) k
  · have k := kf (Classical.not_not.mp q)
    obtain ⟨locs, X, eT, N, hx, hby, hml, hZ, hown, hnm, hret, hlk, hn⟩ := H
    subst hp'
    exact oG.go (fun t hr => XS.icmpNo X.here hx rfl (hb hby hd) rfl (XT.ii_le_f (Classical.not_not.mp q)) hr) k
theorem o_if_le (H : oH p l e R s m args below meth c bc ml y rt Z n0 T h cells slots) {o : Int} {x : Int32} (hd : decode bc pc = .ok (.ifCond .le o, 3)) (ho : 0 ≤ (pc : Int) + o) (hp : ((pc : Int) + o).toNat = pt) (hp' : pc + 3 = pc') (kt : ¬ 0 < x → oG p e below s n0 kc ks Q (T.setTop (mkF m pt L S))) (kf : 0 < x → oG p e below s n0 kc ks Q (T.setTop (mkF m pc' L S))) : oG p e below s n0 kc ks Q (T.setTop (mkF m pc L (.int x :: S))) := by
  by_cases q : ¬ 0 < x
  · have k := kt q
    obtain ⟨locs, X, eT, N, hx, hby, hml, hZ, hown, hnm, hret, hlk, hn⟩ := H
    exact oG.go (fun t hr => XS.ifYes X.here hx rfl rfl (hb hby hd) rfl (XT.i0_le_t q) ho hp hr) k
  · have k := kf (Classical.not_not.mp q)
    obtain ⟨locs, X, eT, N, hx, hby, hml, hZ, hown, hnm, hret, hlk, hn⟩ := H
    subst hp'
    exact oG.go (fun t hr => XS.ifNo X.here hx rfl (hb hby hd) rfl (XT.i0_le_f (Classical.not_not.mp q)) hr) k
theorem o_ifl_le (H : oH p l e R s m args below meth c bc ml y rt Z n0 T h cells slots) {o : Int} {x z : Int64} (hd : decode bc pc = .ok (.ifCond .le o, 3)) (ho : 0 ≤ (pc : Int) + o) (hp : ((pc : Int) + o).toNat = pt) (hp' : pc + 3 = pc') (kt : ¬ z < x → oG p e below s n0 kc ks Q (T.setTop (mkF m pt L S))) (kf : z < x → oG p e below s n0 kc ks Q (T.setTop (mkF m pc' L S))) : oG p e below s n0 kc ks Q (T.setTop (mkF m pc L (.int (XT.cmpL x z) :: S))) := by
  by_cases q : ¬ z < x
  · have k := kt q
    obtain ⟨locs, X, eT, N, hx, hby, hml, hZ, hown, hnm, hret, hlk, hn⟩ := H
    exact oG.go (fun t hr => XS.ifYes X.here hx rfl rfl (hb hby hd) rfl (XT.ll_le_t q) ho hp hr) k
  · have k := kf (Classical.not_not.mp q)
    obtain ⟨locs, X, eT, N, hx, hby, hml, hZ, hown, hnm, hret, hlk, hn⟩ := H
    subst hp'
    exact oG.go (fun t hr => XS.ifNo X.here hx rfl (hb hby hd) rfl (XT.ll_le_f (Classical.not_not.mp q)) hr) k
theorem o_icmp_t (H : oH p l e R s m args below meth c bc ml y rt Z n0 T h cells slots) {o : Int} {cd : ClassFile.Cond} {x z : Int32} (hd : decode bc pc = .ok (.if_icmp cd o, 3)) (hc : if_icmp.holds cd x z = true) (ho : 0 ≤ (pc : Int) + o) (hp : ((pc : Int) + o).toNat = pt) (k : oG p e below s n0 kc ks Q (T.setTop (mkF m pt L S))) : oG p e below s n0 kc ks Q (T.setTop (mkF m pc L (.int z :: .int x :: S))) := by
  obtain ⟨locs, X, eT, N, hx, hby, hml, hZ, hown, hnm, hret, hlk, hn⟩ := H
  exact oG.go (fun t hr => XS.icmpYes X.here hx rfl rfl (hb hby hd) rfl hc ho hp hr) k
theorem o_icmp_f (H : oH p l e R s m args below meth c bc ml y rt Z n0 T h cells slots) {o : Int} {cd : ClassFile.Cond} {x z : Int32} (hd : decode bc pc = .ok (.if_icmp cd o, 3)) (hc : if_icmp.holds cd x z = false) (hp : pc + 3 = pc') (k : oG p e below s n0 kc ks Q (T.setTop (mkF m pc' L S))) : oG p e below s n0 kc ks Q (T.setTop (mkF m pc L (.int z :: .int x :: S))) := by
  obtain ⟨locs, X, eT, N, hx, hby, hml, hZ, hown, hnm, hret, hlk, hn⟩ := H
  subst hp
  exact oG.go (fun t hr => XS.icmpNo X.here hx rfl (hb hby hd) rfl hc hr) k
theorem o_if_t (H : oH p l e R s m args below meth c bc ml y rt Z n0 T h cells slots) {o : Int} {cd : ClassFile.Cond} {x : Int32} (hd : decode bc pc = .ok (.ifCond cd o, 3)) (hc : ifCond.holds cd x = true) (ho : 0 ≤ (pc : Int) + o) (hp : ((pc : Int) + o).toNat = pt) (k : oG p e below s n0 kc ks Q (T.setTop (mkF m pt L S))) : oG p e below s n0 kc ks Q (T.setTop (mkF m pc L (.int x :: S))) := by
  obtain ⟨locs, X, eT, N, hx, hby, hml, hZ, hown, hnm, hret, hlk, hn⟩ := H
  exact oG.go (fun t hr => XS.ifYes X.here hx rfl rfl (hb hby hd) rfl hc ho hp hr) k
theorem o_if_f (H : oH p l e R s m args below meth c bc ml y rt Z n0 T h cells slots) {o : Int} {cd : ClassFile.Cond} {x : Int32} (hd : decode bc pc = .ok (.ifCond cd o, 3)) (hc : ifCond.holds cd x = false) (hp : pc + 3 = pc') (k : oG p e below s n0 kc ks Q (T.setTop (mkF m pc' L S))) : oG p e below s n0 kc ks Q (T.setTop (mkF m pc L (.int x :: S))) := by
  obtain ⟨locs, X, eT, N, hx, hby, hml, hZ, hown, hnm, hret, hlk, hn⟩ := H
  subst hp
  exact oG.go (fun t hr => XS.ifNo X.here hx rfl (hb hby hd) rfl hc hr) k
theorem o_ifnull_t (H : oH p l e R s m args below meth c bc ml y rt Z n0 T h cells slots) {o : Int} (hd : decode bc pc = .ok (.ifnull o, 3)) (ho : 0 ≤ (pc : Int) + o) (hp : ((pc : Int) + o).toNat = pt) (k : oG p e below s n0 kc ks Q (T.setTop (mkF m pt L S))) : oG p e below s n0 kc ks Q (T.setTop (mkF m pc L (.null :: S))) := by
  obtain ⟨locs, X, eT, N, hx, hby, hml, hZ, hown, hnm, hret, hlk, hn⟩ := H
  exact oG.go (fun t hr => XS.ifnullYes X.here hx rfl rfl (hb hby hd) rfl ho hp hr) k
theorem o_ifnull_f (H : oH p l e R s m args below meth c bc ml y rt Z n0 T h cells slots) {o : Int} {a : Addr} (hd : decode bc pc = .ok (.ifnull o, 3)) (hp : pc + 3 = pc') (k : oG p e below s n0 kc ks Q (T.setTop (mkF m pc' L S))) : oG p e below s n0 kc ks Q (T.setTop (mkF m pc L (.ref a :: S))) := by
  obtain ⟨locs, X, eT, N, hx, hby, hml, hZ, hown, hnm, hret, hlk, hn⟩ := H
  subst hp
  exact oG.go (fun t hr => XS.ifnullNo X.here hx rfl (hb hby hd) rfl hr) k
theorem o_ifnonnull_t (H : oH p l e R s m args below meth c bc ml y rt Z n0 T h cells slots) {o : Int} {a : Addr} (hd : decode bc pc = .ok (.ifnonnull o, 3)) (ho : 0 ≤ (pc : Int) + o) (hp : ((pc : Int) + o).toNat = pt) (k : oG p e below s n0 kc ks Q (T.setTop (mkF m pt L S))) : oG p e below s n0 kc ks Q (T.setTop (mkF m pc L (.ref a :: S))) := by
  obtain ⟨locs, X, eT, N, hx, hby, hml, hZ, hown, hnm, hret, hlk, hn⟩ := H
  exact oG.go (fun t hr => XT.ifnonnullYes X.here hx rfl rfl (hb hby hd) rfl ho hp hr) k
theorem o_ifnonnull_f (H : oH p l e R s m args below meth c bc ml y rt Z n0 T h cells slots) {o : Int} (hd : decode bc pc = .ok (.ifnonnull o, 3)) (hp : pc + 3 = pc') (k : oG p e below s n0 kc ks Q (T.setTop (mkF m pc' L S))) : oG p e below s n0 kc ks Q (T.setTop (mkF m pc L (.null :: S))) := by
  obtain ⟨locs, X, eT, N, hx, hby, hml, hZ, hown, hnm, hret, hlk, hn⟩ := H
  subst hp
  exact oG.go (fun t hr => XT.ifnonnullNo X.here hx rfl (hb hby hd) rfl hr) k
theorem o_acmp_t (H : oH p l e R s m args below meth c bc ml y rt Z n0 T h cells slots) {o : Int} {cd : ClassFile.ACond} {u w : Value} (hd : decode bc pc = .ok (.if_acmp cd o, 3)) (hu : u.isRef = true) (hw : w.isRef = true) (hc : XT.acmp cd u w = true) (ho : 0 ≤ (pc : Int) + o) (hp : ((pc : Int) + o).toNat = pt) (k : oG p e below s n0 kc ks Q (T.setTop (mkF m pt L S))) : oG p e below s n0 kc ks Q (T.setTop (mkF m pc L (w :: u :: S))) := by
  obtain ⟨locs, X, eT, N, hx, hby, hml, hZ, hown, hnm, hret, hlk, hn⟩ := H
  exact oG.go (fun t hr => XT.acmpYes X.here hx rfl rfl (hb hby hd) rfl hu hw hc ho hp hr) k
theorem o_acmp_f (H : oH p l e R s m args below meth c bc ml y rt Z n0 T h cells slots) {o : Int} {cd : ClassFile.ACond} {u w : Value} (hd : decode bc pc = .ok (.if_acmp cd o, 3)) (hu : u.isRef = true) (hw : w.isRef = true) (hc : XT.acmp cd u w = false) (hp : pc + 3 = pc') (k : oG p e below s n0 kc ks Q (T.setTop (mkF m pc' L S))) : oG p e below s n0 kc ks Q (T.setTop (mkF m pc L (w :: u :: S))) := by
  obtain ⟨locs, X, eT, N, hx, hby, hml, hZ, hown, hnm, hret, hlk, hn⟩ := H
  subst hp
  exact oG.go (fun t hr => XT.acmpNo X.here hx rfl (hb hby hd) rfl hu hw hc hr) k
theorem o_ldcI (H : oH p l e R s m args below meth c bc ml y rt Z n0 T h cells slots) {i : Nat} (v : Int32) (w : (Jvm.Cond.constant y.cls i v).before a0 Z = true) (hd : decode bc pc = .ok (.ldc i, 2)) (hp : pc + 2 = pc') (k : oG p e below s n0 kc ks Q (T.setTop (mkF m pc' L (.int v :: S)))) : oG p e below s n0 kc ks Q (T.setTop (mkF m pc L S)) := by
  obtain ⟨locs, X, eT, N, hx, hby, hml, hZ, hown, hnm, hret, hlk, hn⟩ := H
  subst hp
  exact oG.go (X.ldcInt hx hown (mvT hZ w) (g := mkF m pc L S) rfl (hb hby hd)) k
theorem o_ldcJ (H : oH p l e R s m args below meth c bc ml y rt Z n0 T h cells slots) {i : Nat} (v : Int64) (w : (Jvm.Cond.constantLong y.cls i v).before a0 Z = true) (hd : decode bc pc = .ok (.ldc2_w i, 3)) (hp : pc + 3 = pc') (k : oG p e below s n0 kc ks Q (T.setTop (mkF m pc' L (.long v :: S)))) : oG p e below s n0 kc ks Q (T.setTop (mkF m pc L S)) := by
  obtain ⟨locs, X, eT, N, hx, hby, hml, hZ, hown, hnm, hret, hlk, hn⟩ := H
  subst hp
  exact oG.go (X.ldc2Long hx hown (mvT hZ w) (g := mkF m pc L S) rfl (hb hby hd)) k
theorem o_ireturn (H : oH p l e R s m args below meth c bc ml y rt Z n0 T h cells slots) {z : Int32} (hrt : rt = some .int) (hd : decode bc pc = .ok (.ireturn, 1)) (hk : cells ≤ kc) (hs : slots ≤ ks) (q : Q (some (.int z)) h) : oG p e below s n0 kc ks Q (T.setTop (mkF m pc L (.int z :: S))) := by
  obtain ⟨locs, X, eT, N, hx, hby, hml, hZ, hown, hnm, hret, hlk, hn⟩ := H
  obtain ⟨fs, hr, hrun, hended, hW, hsame⟩ := X.leave (v := (some (.int z))) (fun hh => by first | rfl | (rw [hret, hrt] at hh; cases hh)) hlk
  refine ⟨_, _, retI X hx (hret.trans hrt) (hb hby hd) hr, hrun, hended, _, _, rfl, ⟨?_, N⟩, ⟨_, rfl⟩, hW, hsame.mono hk hs⟩
  show Q _ T.heap
  rw [eT]; exact q
theorem o_nreturn (H : oH p l e R s m args below meth c bc ml y rt Z n0 T h cells slots) {z : Int32} (t : FieldType) (hrt : rt = some t) (ht : t = .boolean ∨ t = .byte ∨ t = .char ∨ t = .short) (hd : decode bc pc = .ok (.ireturn, 1)) (hk : cells ≤ kc) (hs : slots ≤ ks) (q : Q (some (.int (nar t z))) h) : oG p e below s n0 kc ks Q (T.setTop (mkF m pc L (.int z :: S))) := by
  obtain ⟨locs, X, eT, N, hx, hby, hml, hZ, hown, hnm, hret, hlk, hn⟩ := H
  obtain ⟨fs, hr, hrun, hended, hW, hsame⟩ := X.leave (v := (some (.int (nar t z)))) (fun hh => by first | rfl | (rw [hret, hrt] at hh; cases hh)) hlk
  refine ⟨_, _, retN X hx (hret.trans hrt) ht (hb hby hd) hr, hrun, hended, _, _, rfl, ⟨?_, N⟩, ⟨_, rfl⟩, hW, hsame.mono hk hs⟩
  show Q _ T.heap
  rw [eT]; exact q
theorem o_lreturn (H : oH p l e R s m args below meth c bc ml y rt Z n0 T h cells slots) {z : Int64} (hrt : rt = some .long) (hd : decode bc pc = .ok (.lreturn, 1)) (hk : cells ≤ kc) (hs : slots ≤ ks) (q : Q (some (.long z)) h) : oG p e below s n0 kc ks Q (T.setTop (mkF m pc L (.long z :: S))) := by
  obtain ⟨locs, X, eT, N, hx, hby, hml, hZ, hown, hnm, hret, hlk, hn⟩ := H
  obtain ⟨fs, hr, hrun, hended, hW, hsame⟩ := X.leave (v := (some (.long z))) (fun hh => by first | rfl | (rw [hret, hrt] at hh; cases hh)) hlk
  refine ⟨_, _, retOut X hx (w := .long z) (i := .lreturn) (hret.trans hrt) rfl (Or.inr (Or.inl ⟨rfl, rfl, z, rfl⟩)) (hb hby hd) hr, hrun, hended, _, _, rfl, ⟨?_, N⟩, ⟨_, rfl⟩, hW, hsame.mono hk hs⟩
  show Q _ T.heap
  rw [eT]; exact q
theorem o_areturn (H : oH p l e R s m args below meth c bc ml y rt Z n0 T h cells slots) {v : Value} {t : FieldType} (hrt : rt = some t) (ht : t.isReference = true) (hv : v.isRef = true) (hna : narrow t v = v) (hd : decode bc pc = .ok (.areturn, 1)) (hk : cells ≤ kc) (hs : slots ≤ ks) (q : Q (some v) h) : oG p e below s n0 kc ks Q (T.setTop (mkF m pc L (v :: S))) := by
  obtain ⟨locs, X, eT, N, hx, hby, hml, hZ, hown, hnm, hret, hlk, hn⟩ := H
  obtain ⟨fs, hr, hrun, hended, hW, hsame⟩ := X.leave (v := (some v)) (fun hh => by first | rfl | (rw [hret, hrt] at hh; cases hh)) hlk
  refine ⟨_, _, retOut X hx (w := v) (i := .areturn) (hret.trans hrt) hna (Or.inr (Or.inr (Or.inr (Or.inr ⟨rfl, ht, hv⟩)))) (hb hby hd) hr, hrun, hended, _, _, rfl, ⟨?_, N⟩, ⟨_, rfl⟩, hW, hsame.mono hk hs⟩
  show Q _ T.heap
  rw [eT]; exact q
theorem o_return (H : oH p l e R s m args below meth c bc ml y rt Z n0 T h cells slots)  (hrt : rt = none) (hd : decode bc pc = .ok (.return_, 1)) (hk : cells ≤ kc) (hs : slots ≤ ks) (q : Q none h) : oG p e below s n0 kc ks Q (T.setTop (mkF m pc L [])) := by
  obtain ⟨locs, X, eT, N, hx, hby, hml, hZ, hown, hnm, hret, hlk, hn⟩ := H
  obtain ⟨fs, hr, hrun, hended, hW, hsame⟩ := X.leave (v := none) (fun hh => by first | rfl | (rw [hret, hrt] at hh; cases hh)) hlk
  refine ⟨_, _, X.returnOut hx (hret.trans hrt) (hb hby hd) hr, hrun, hended, _, _, rfl, ⟨?_, N⟩, ⟨_, rfl⟩, hW, hsame.mono hk hs⟩
  show Q _ T.heap
  rw [eT]; exact q
theorem o_new (H : oH p l e R s m args below meth c bc ml y rt Z n0 T h cells slots) {i nn : Nat} {C : String} (w : (Jvm.Cond.classLink y.cls i C).before a0 Z = true) (wi : (Jvm.Cond.instantiable C nn).before a0 Z = true) (wz : (Jvm.Cond.initialized C).before a0 Z = true) (hd : decode bc pc = .ok (.new i, 3)) (hp : pc + 3 = pc') (hc : cells + 1 ≤ R.cells) (hl : slots + nn ≤ R.slots)
    (k : ∀ (T' : State) (h' : Heap) (a : Addr), a = h.size → oH p l e R s m args below meth c bc ml y rt Z n0 T' h' (cells + 1) (slots + nn) → Ext h h' → Exa Z h' a C → (∀ {O nm d : String} {ty : FieldType}, Laid Z a0 C O nm d → parseFieldDescriptor d = some ty → Fld Z h' a O nm d (defaultValue ty)) → oG p e below s n0 kc ks Q (T'.setTop (mkF m pc' L (.ref a :: S)))) : oG p e below s n0 kc ks Q (T.setTop (mkF m pc L S)) := by
  obtain ⟨locs, X, eT, N, hx, hby, hml, hZ, hown, hnm, hret, hlk, hn⟩ := H
  subst hp
  obtain ⟨T', h', X', e', E, A, D, -, st⟩ := newO X hx hZ hown w wi wz eT (g := mkF m pc L S) rfl (hb hby hd) hc hl
  exact oG.go st (k T' h' _ rfl ⟨locs, X', e', N, hx, hby, hml, hZ, hown, hnm, hret, hlk, hn⟩ E A (fun La ht => D La ht))
theorem o_initO (H : oH p l e R s m args below meth c bc ml y rt Z n0 T h cells slots) {i : Nat} {a : Addr} (w1 : (Jvm.Cond.methodLink y.cls i Lib.objectInit).before a0 Z = true) (w2 : (Jvm.Cond.instanceMethod Lib.objectInit).before a0 Z = true) (w3 : (Jvm.Cond.code Lib.objectInit ⟨#[0xb1]⟩ 1 none).before a0 Z = true) (hd : decode bc pc = .ok (.invokespecial i, 3)) (hp : pc + 3 = pc') (hsz : L.size = ml) (hf : 1 ≤ R.frames) (hlo : (S.map fun v => v.category).sum + 12 ≤ R.locals)
    (k : ∀ (T' : State), oH p l e R s m args below meth c bc ml y rt Z n0 T' h cells slots → oG p e below s n0 kc ks Q (T'.setTop (mkF m pc' L S))) : oG p e below s n0 kc ks Q (T.setTop (mkF m pc L (.ref a :: S))) := by
  obtain ⟨locs, X, eT, N, hx, hby, hml, hZ, hown, hnm, hret, hlk, hn⟩ := H
  subst hp
  obtain ⟨T', X', e', st⟩ := initO X hx hZ hown w1 w2 w3 eT (g := mkF m pc L (.ref a :: S)) rfl (by rw [hml]; exact hsz) rfl (hb hby hd) hf (W := (S.map fun v => v.category).sum) (by show 2 * 0 + _ ≤ _; omega) hlo
  exact oG.go st (k T' ⟨locs, X', e', N, hx, hby, hml, hZ, hown, hnm, hret, hlk, hn⟩)
theorem o_getF (H : oH p l e R s m args below meth c bc ml y rt Z n0 T h cells slots) {i : Nat} {a : Addr} {C f d host : String} {v : Value} (w : (Jvm.Cond.fieldLink y.cls i C f d).before a0 Z = true ∨ (Jvm.Cond.fieldLinkNest y.cls i C f d host).before a0 Z = true) (F : Fld Z h a C f d v) (hd : decode bc pc = .ok (.getfield i, 3)) (hp : pc + 3 = pc')
    (k : ∀ (T' : State), oH p l e R s m args below meth c bc ml y rt Z n0 T' h cells slots → oG p e below s n0 kc ks Q (T'.setTop (mkF m pc' L (v :: S)))) : oG p e below s n0 kc ks Q (T.setTop (mkF m pc L (.ref a :: S))) := by
  obtain ⟨locs, X, eT, N, hx, hby, hml, hZ, hown, hnm, hret, hlk, hn⟩ := H
  subst hp
  obtain ⟨T', X', e', st⟩ := getF X hx hZ hown (host := host) w Via.refl eT F (g := mkF m pc L (.ref a :: S)) rfl rfl (hb hby hd)
  exact oG.go st (k T' ⟨locs, X', e', N, hx, hby, hml, hZ, hown, hnm, hret, hlk, hn⟩)
theorem o_putF (H : oH p l e R s m args below meth c bc ml y rt Z n0 T h cells slots) {i kk : Nat} {a : Addr} {C K f d host : String} {v old : Value} {ty : FieldType} (w : (Jvm.Cond.fieldLink y.cls i C f d).before a0 Z = true ∨ (Jvm.Cond.fieldLinkNest y.cls i C f d host).before a0 Z = true) (F : Fld Z h a C f d old) (E : Exa Z h a K) (wl : (Jvm.Cond.lays K C f d).before a0 Z = true ∨ ((Jvm.Cond.laysFinal K C f d).before a0 Z = true ∧ y.cls = C ∧ y.name = "<init>")) (wi : (Jvm.Cond.instantiable K kk).before a0 Z = true) (hty : parseFieldDescriptor d = some ty) (hna : narrow ty v = v) (hft : fits ty v = true) (ha : n0 ≤ a) (hd : decode bc pc = .ok (.putfield i, 3)) (hp : pc + 3 = pc')
    (k : ∀ (T' : State) (h' : Heap), oH p l e R s m args below meth c bc ml y rt Z n0 T' h' cells slots → Wr h h' a (Jvm.RoadKit.slotOf Z C f d) v → oG p e below s n0 kc ks Q (T'.setTop (mkF m pc' L S))) : oG p e below s n0 kc ks Q (T.setTop (mkF m pc L (v :: .ref a :: S))) := by
  obtain ⟨locs, X, eT, N, hx, hby, hml, hZ, hown, hnm, hret, hlk, hn⟩ := H
  subst hp
  obtain ⟨T', h', X', e', W, st⟩ := putF X hx hZ hown (host := host) w Via.refl eT F E (wl.imp id fun q => ⟨q.1, q.2.1, hnm.trans q.2.2⟩) wi hty hna hft (g := mkF m pc L (v :: .ref a :: S)) rfl rfl (hb hby hd)
  exact oG.go st (k T' h' ⟨_, X', e', Fr.snoc X' N ha, hx, hby, hml, hZ, hown, hnm, hret, hlk, hn⟩ W)
theorem o_putFN (H : oH p l e R s m args below meth c bc ml y rt Z n0 T h cells slots) {i kk : Nat} {a : Addr} {C K f d : String} {v v' old : Value} {ty : FieldType} (w : (Jvm.Cond.fieldLink y.cls i C f d).before a0 Z = true) (F : Fld Z h a C f d old) (E : Exa Z h a K) (wl : (Jvm.Cond.lays K C f d).before a0 Z = true ∨ ((Jvm.Cond.laysFinal K C f d).before a0 Z = true ∧ y.cls = C ∧ y.name = "<init>")) (wi : (Jvm.Cond.instantiable K kk).before a0 Z = true) (hty : parseFieldDescriptor d = some ty) (hna : narrow ty v = v') (hft : fits ty v' = true) (ha : n0 ≤ a) (hd : decode bc pc = .ok (.putfield i, 3)) (hp : pc + 3 = pc')
    (k : ∀ (T' : State) (h' : Heap), oH p l e R s m args below meth c bc ml y rt Z n0 T' h' cells slots → Wr h h' a (Jvm.RoadKit.slotOf Z C f d) v' → oG p e below s n0 kc ks Q (T'.setTop (mkF m pc' L S))) : oG p e below s n0 kc ks Q (T.setTop (mkF m pc L (v :: .ref a :: S))) := by
  obtain ⟨locs, X, eT, N, hx, hby, hml, hZ, hown, hnm, hret, hlk, hn⟩ := H
  subst hp
  obtain ⟨T', h', X', e', W, st⟩ := putFN X hx hZ hown w Via.refl eT F E (wl.imp id fun q => ⟨q.1, q.2.1, hnm.trans q.2.2⟩) wi hty hna hft (g := mkF m pc L (v :: .ref a :: S)) rfl rfl (hb hby hd)
  exact oG.go st (k T' h' ⟨_, X', e', Fr.snoc X' N ha, hx, hby, hml, hZ, hown, hnm, hret, hlk, hn⟩ W)
theorem o_getS (H : oH p l e R s m args below meth c bc ml y rt Z n0 T h cells slots) {i : Nat} {C f d host : String} {v : Value} (w : (Jvm.Cond.fieldLink y.cls i C f d).before a0 Z = true ∨ (Jvm.Cond.fieldLinkNest y.cls i C f d host).before a0 Z = true) (F : Sta Z h C f d v) (hd : decode bc pc = .ok (.getstatic i, 3)) (hp : pc + 3 = pc')
    (k : ∀ (T' : State), oH p l e R s m args below meth c bc ml y rt Z n0 T' h cells slots → oG p e below s n0 kc ks Q (T'.setTop (mkF m pc' L (v :: S)))) : oG p e below s n0 kc ks Q (T.setTop (mkF m pc L S)) := by
  obtain ⟨locs, X, eT, N, hx, hby, hml, hZ, hown, hnm, hret, hlk, hn⟩ := H
  subst hp
  obtain ⟨T', X', e', st⟩ := getS2 X hx hZ hown (host := host) w Via.refl eT F (g := mkF m pc L S) rfl (hb hby hd)
  exact oG.go st (k T' ⟨locs, X', e', N, hx, hby, hml, hZ, hown, hnm, hret, hlk, hn⟩)
/-- an array, by the list of what it holds -/
def oA (ty : FieldType) (Z : State) (h : Heap) (a : Addr) (vs : List Value) : Prop := vs.length < 2 ^ 31 ∧ ∃ cl : Cell, Arr Z h a cl ty ∧ cl.slots = vs.toArray
theorem oA.ext {ty : FieldType} {h' : Heap} {a : Addr} {vs : List Value} (A : oA ty Z h a vs) (E : Ext h h') : oA ty Z h' a vs := by
  obtain ⟨q, cl, A, r⟩ := A; exact ⟨q, cl, A.ext E, r⟩
theorem oA.other {ty : FieldType} {h' : Heap} {a b : Addr} {sl : Nat} {v : Value} {vs : List Value} (A : oA ty Z h b vs) (W : Wr h h' a sl v) (ne : b ≠ a) : oA ty Z h' b vs := by
  obtain ⟨q, cl, A, r⟩ := A; exact ⟨q, cl, A.other W ne, r⟩
theorem oA.keep {ty : FieldType} {h' : Heap} {a : Addr} {ws : List Addr} {vs : List Value} (A : oA ty Z h a vs) (K : Keep h h' ws) (ne : a ∉ ws) : oA ty Z h' a vs := by
  obtain ⟨q, cl, A, r⟩ := A; exact ⟨q, cl, ⟨K.2.1 a cl A.1 ne, A.2⟩, r⟩
theorem oA.lt {ty : FieldType} {a : Addr} {vs : List Value} (A : oA ty Z h a vs) : a < h.size := by
  obtain ⟨q, cl, A, r⟩ := A; exact A.lt
theorem oA.same {ty : FieldType} {h' : Heap} {a : Addr} {j : Nat} {v : Value} {vs : List Value} (A : oA ty Z h a vs) (W : Wr h h' a j v) : oA ty Z h' a (vs.set j v) := by
  obtain ⟨q, cl, A, r⟩ := A
  refine ⟨by rw [List.length_set]; exact q, _, A.same W, ?_⟩
  show cl.slots.setIfInBounds j v = _
  rw [r, List.setIfInBounds_toArray]
theorem o_inb {cl : Cell} {vs : List Value} {j : Int32} {i : Nat} (r : cl.slots = vs.toArray) (h0 : j.toInt = (i : Int)) (h1 : i < vs.length) : ¬ (j < 0 ∨ cl.slots.size ≤ j.toNatClampNeg) := by
  have e0 : (0 : Int32).toInt = 0 := rfl
  have e1 : cl.slots.size = vs.length := by rw [r]; simp
  rw [Int32.lt_iff_toInt_lt, e0, e1]
  simp only [Int32.toNatClampNeg]; omega
theorem o_nat {j : Int32} {i : Nat} (h0 : j.toInt = (i : Int)) : j.toNatClampNeg = i := by
  simp only [Int32.toNatClampNeg]; omega
theorem o_elt {cl : Cell} {vs : List Value} {j : Int32} {i : Nat} {v : Value} (r : cl.slots = vs.toArray) (h0 : j.toInt = (i : Int)) (hv : vs[i]? = some v) : cl.slots[j.toNatClampNeg]? = some v := by
  rw [r, o_nat h0]; simpa using hv
theorem o_lt_of {vs : List Value} {i : Nat} {v : Value} (hv : vs[i]? = some v) : i < vs.length := (List.getElem?_eq_some_iff.mp hv).1
theorem o_newarr (H : oH p l e R s m args below meth c bc ml y rt Z n0 T h cells slots) {aty : ArrayType} {z : Int32} (cap n : Nat) (w : (Jvm.Cond.arrayClass (newarray.typeOf aty)).before a0 Z = true) (hz : z.toInt = (n : Int)) (hcap : n ≤ cap) (hb8 : cap * 8 ≤ 536870912) (hd : decode bc pc = .ok (.newarray aty, 2)) (hp : pc + 2 = pc') (hc : cells + 1 ≤ R.cells) (hl : slots + cap ≤ R.slots)
    (k : ∀ (T' : State) (h' : Heap) (a : Addr), a = h.size → oH p l e R s m args below meth c bc ml y rt Z n0 T' h' (cells + 1) (slots + cap) → Ext h h' → oA (newarray.typeOf aty) Z h' a (List.replicate n (defaultValue (newarray.typeOf aty))) → oG p e below s n0 kc ks Q (T'.setTop (mkF m pc' L (.ref a :: S)))) : oG p e below s n0 kc ks Q (T.setTop (mkF m pc L (.int z :: S))) := by
  obtain ⟨locs, X, eT, N, hx, hby, hml, hZ, hown, hnm, hret, hlk, hn⟩ := H
  subst hp
  have e0 : (0 : Int32).toInt = 0 := rfl
  obtain ⟨T', h', kk, X', e', E, A, st⟩ := newP X hx hZ w eT (g := mkF m pc L (.int z :: S)) rfl (hb hby hd) rfl (by rw [Int32.lt_iff_toInt_lt, e0]; omega) (cap := cap) (by simp only [Int32.toNatClampNeg]; omega) hb8 hc hl
  refine oG.go st (k T' h' _ rfl ⟨locs, X', e', N, hx, hby, hml, hZ, hown, hnm, hret, hlk, hn⟩ E ⟨?_, _, A, ?_⟩)
  · have := Int32.toInt_lt z
    rw [List.length_replicate]; omega
  · show Array.replicate z.toNatClampNeg _ = _
    rw [o_nat hz, ← List.toArray_replicate]
theorem o_iaload (H : oH p l e R s m args below meth c bc ml y rt Z n0 T h cells slots) {a : Addr} {j : Int32} {vs : List Value} (i : Nat) (v : Value) (A : oA .int Z h a vs) (h0 : j.toInt = (i : Int)) (hv : vs[i]? = some v) (hd : decode bc pc = .ok (.iaload, 1)) (hp : pc + 1 = pc') (k : oG p e below s n0 kc ks Q (T.setTop (mkF m pc' L (v :: S)))) : oG p e below s n0 kc ks Q (T.setTop (mkF m pc L (.int j :: .ref a :: S))) := by
  obtain ⟨locs, X, eT, N, hx, hby, hml, hZ, hown, hnm, hret, hlk, hn⟩ := H
  subst hp
  obtain ⟨-, cl, A, r⟩ := A
  exact oG.go (fun t hr => X.iaload hx (j := j) (v := v) (by rw [eT]; exact A.1) (State.isArrayOf_alike hZ.alike A.2.1) A.2.2 (o_inb r h0 (o_lt_of hv)) (o_elt r h0 hv) (g := mkF m pc L (.int j :: .ref a :: S)) rfl rfl (hb hby hd) t hr) k
theorem o_caload (H : oH p l e R s m args below meth c bc ml y rt Z n0 T h cells slots) {a : Addr} {j : Int32} {vs : List Value} (i : Nat) (v : Value) (A : oA .char Z h a vs) (h0 : j.toInt = (i : Int)) (hv : vs[i]? = some v) (hd : decode bc pc = .ok (.caload, 1)) (hp : pc + 1 = pc') (k : oG p e below s n0 kc ks Q (T.setTop (mkF m pc' L (v :: S)))) : oG p e below s n0 kc ks Q (T.setTop (mkF m pc L (.int j :: .ref a :: S))) := by
  obtain ⟨locs, X, eT, N, hx, hby, hml, hZ, hown, hnm, hret, hlk, hn⟩ := H
  subst hp
  obtain ⟨-, cl, A, r⟩ := A
  exact oG.go (fun t hr => X.caload hx (j := j) (v := v) (by rw [eT]; exact A.1) (State.isArrayOf_alike hZ.alike A.2.1) A.2.2 (o_inb r h0 (o_lt_of hv)) (o_elt r h0 hv) (g := mkF m pc L (.int j :: .ref a :: S)) rfl rfl (hb hby hd) t hr) k
theorem o_baload (H : oH p l e R s m args below meth c bc ml y rt Z n0 T h cells slots) {a : Addr} {j : Int32} {vs : List Value} (i : Nat) (v : Value) (A : oA .byte Z h a vs) (h0 : j.toInt = (i : Int)) (hv : vs[i]? = some v) (hd : decode bc pc = .ok (.baload, 1)) (hp : pc + 1 = pc') (k : oG p e below s n0 kc ks Q (T.setTop (mkF m pc' L (v :: S)))) : oG p e below s n0 kc ks Q (T.setTop (mkF m pc L (.int j :: .ref a :: S))) := by
  obtain ⟨locs, X, eT, N, hx, hby, hml, hZ, hown, hnm, hret, hlk, hn⟩ := H
  subst hp
  obtain ⟨-, cl, A, r⟩ := A
  exact oG.go (fun t hr => X.baloadBytes hx (j := j) (v := v) (by rw [eT]; exact A.1) (State.isArrayOf_alike hZ.alike A.2.1) A.2.2 (o_inb r h0 (o_lt_of hv)) (o_elt r h0 hv) (g := mkF m pc L (.int j :: .ref a :: S)) rfl rfl (hb hby hd) t hr) k
theorem o_laload (H : oH p l e R s m args below meth c bc ml y rt Z n0 T h cells slots) {a : Addr} {j : Int32} {vs : List Value} (i : Nat) (v : Value) (A : oA .long Z h a vs) (h0 : j.toInt = (i : Int)) (hv : vs[i]? = some v) (hd : decode bc pc = .ok (.laload, 1)) (hp : pc + 1 = pc') (k : oG p e below s n0 kc ks Q (T.setTop (mkF m pc' L (v :: S)))) : oG p e below s n0 kc ks Q (T.setTop (mkF m pc L (.int j :: .ref a :: S))) := by
  obtain ⟨locs, X, eT, N, hx, hby, hml, hZ, hown, hnm, hret, hlk, hn⟩ := H
  subst hp
  obtain ⟨-, cl, A, r⟩ := A
  exact oG.go (fun t hr => X.laload hx (j := j) (v := v) (by rw [eT]; exact A.1) (State.isArrayOf_alike hZ.alike A.2.1) A.2.2 (o_inb r h0 (o_lt_of hv)) (o_elt r h0 hv) (g := mkF m pc L (.int j :: .ref a :: S)) rfl rfl (hb hby hd) t hr) k
theorem o_arraylength (H : oH p l e R s m args below meth c bc ml y rt Z n0 T h cells slots) {a : Addr} {ty : FieldType} {vs : List Value} (z : Int32) (A : oA ty Z h a vs) (hz : vs.length.toInt32 = z) (hd : decode bc pc = .ok (.arraylength, 1)) (hp : pc + 1 = pc') (k : oG p e below s n0 kc ks Q (T.setTop (mkF m pc' L (.int z :: S)))) : oG p e below s n0 kc ks Q (T.setTop (mkF m pc L (.ref a :: S))) := by
  obtain ⟨locs, X, eT, N, hx, hby, hml, hZ, hown, hnm, hret, hlk, hn⟩ := H
  subst hp
  obtain ⟨-, cl, A, r⟩ := A
  have e1 : cl.slots.size.toInt32 = z := by rw [← hz, r]; simp
  exact oG.go (fun t hr => X.arraylength hx (by rw [eT]; exact A.1) (State.isArrayOf_alike hZ.alike A.2.1) (g := mkF m pc L (.ref a :: S)) rfl rfl (hb hby hd) t (by rw [e1]; exact hr)) k
theorem o_iastore (H : oH p l e R s m args below meth c bc ml y rt Z n0 T h cells slots) {a : Addr} {j : Int32} {z : Int32} {vs : List Value} (i : Nat) (A : oA .int Z h a vs) (h0 : j.toInt = (i : Int)) (h1 : i < vs.length) (ha : n0 ≤ a) (hd : decode bc pc = .ok (.iastore, 1)) (hp : pc + 1 = pc')
    (k : ∀ (T' : State) (h' : Heap), oH p l e R s m args below meth c bc ml y rt Z n0 T' h' cells slots → Wr h h' a i (.int z) → oA .int Z h' a (vs.set i (.int z)) → oG p e below s n0 kc ks Q (T'.setTop (mkF m pc' L S))) : oG p e below s n0 kc ks Q (T.setTop (mkF m pc L (.int z :: .int j :: .ref a :: S))) := by
  obtain ⟨locs, X, eT, N, hx, hby, hml, hZ, hown, hnm, hret, hlk, hn⟩ := H
  subst hp
  have A' := A
  obtain ⟨-, cl, A, r⟩ := A
  obtain ⟨T', h', X', e', W, st⟩ := stI X hx hZ eT A (j := j) (o_inb r h0 h1) (g := mkF m pc L (.int z :: .int j :: .ref a :: S)) rfl rfl (hb hby hd)
  have en := o_nat h0
  have W2 : Wr h h' a i _ := en ▸ W
  exact oG.go st (k T' h' ⟨_, X', e', Fr.snoc X' N ha, hx, hby, hml, hZ, hown, hnm, hret, hlk, hn⟩ W2 (A'.same W2))
theorem o_castore (H : oH p l e R s m args below meth c bc ml y rt Z n0 T h cells slots) {a : Addr} {j : Int32} {z : Int32} {vs : List Value} (i : Nat) (A : oA .char Z h a vs) (h0 : j.toInt = (i : Int)) (h1 : i < vs.length) (ha : n0 ≤ a) (hd : decode bc pc = .ok (.castore, 1)) (hp : pc + 1 = pc')
    (k : ∀ (T' : State) (h' : Heap), oH p l e R s m args below meth c bc ml y rt Z n0 T' h' cells slots → Wr h h' a i (.int (nar .char z)) → oA .char Z h' a (vs.set i (.int (nar .char z))) → oG p e below s n0 kc ks Q (T'.setTop (mkF m pc' L S))) : oG p e below s n0 kc ks Q (T.setTop (mkF m pc L (.int z :: .int j :: .ref a :: S))) := by
  obtain ⟨locs, X, eT, N, hx, hby, hml, hZ, hown, hnm, hret, hlk, hn⟩ := H
  subst hp
  have A' := A
  obtain ⟨-, cl, A, r⟩ := A
  obtain ⟨T', h', X', e', W, st⟩ := stC X hx hZ eT A (j := j) (o_inb r h0 h1) (g := mkF m pc L (.int z :: .int j :: .ref a :: S)) rfl rfl (hb hby hd)
  have en := o_nat h0
  have W2 : Wr h h' a i _ := en ▸ W
  exact oG.go st (k T' h' ⟨_, X', e', Fr.snoc X' N ha, hx, hby, hml, hZ, hown, hnm, hret, hlk, hn⟩ W2 (A'.same W2))
theorem o_bastore (H : oH p l e R s m args below meth c bc ml y rt Z n0 T h cells slots) {a : Addr} {j : Int32} {z : Int32} {vs : List Value} (i : Nat) (A : oA .byte Z h a vs) (h0 : j.toInt = (i : Int)) (h1 : i < vs.length) (ha : n0 ≤ a) (hd : decode bc pc = .ok (.bastore, 1)) (hp : pc + 1 = pc')
    (k : ∀ (T' : State) (h' : Heap), oH p l e R s m args below meth c bc ml y rt Z n0 T' h' cells slots → Wr h h' a i (.int (nar .byte z)) → oA .byte Z h' a (vs.set i (.int (nar .byte z))) → oG p e below s n0 kc ks Q (T'.setTop (mkF m pc' L S))) : oG p e below s n0 kc ks Q (T.setTop (mkF m pc L (.int z :: .int j :: .ref a :: S))) := by
  obtain ⟨locs, X, eT, N, hx, hby, hml, hZ, hown, hnm, hret, hlk, hn⟩ := H
  subst hp
  have A' := A
  obtain ⟨-, cl, A, r⟩ := A
  obtain ⟨T', h', X', e', W, st⟩ := stB X hx hZ eT A (j := j) (o_inb r h0 h1) (g := mkF m pc L (.int z :: .int j :: .ref a :: S)) rfl rfl (hb hby hd)
  have en := o_nat h0
  have W2 : Wr h h' a i _ := en ▸ W
  exact oG.go st (k T' h' ⟨_, X', e', Fr.snoc X' N ha, hx, hby, hml, hZ, hown, hnm, hret, hlk, hn⟩ W2 (A'.same W2))
theorem o_lastore (H : oH p l e R s m args below meth c bc ml y rt Z n0 T h cells slots) {a : Addr} {j : Int32} {z : Int64} {vs : List Value} (i : Nat) (A : oA .long Z h a vs) (h0 : j.toInt = (i : Int)) (h1 : i < vs.length) (ha : n0 ≤ a) (hd : decode bc pc = .ok (.lastore, 1)) (hp : pc + 1 = pc')
    (k : ∀ (T' : State) (h' : Heap), oH p l e R s m args below meth c bc ml y rt Z n0 T' h' cells slots → Wr h h' a i (.long z) → oA .long Z h' a (vs.set i (.long z)) → oG p e below s n0 kc ks Q (T'.setTop (mkF m pc' L S))) : oG p e below s n0 kc ks Q (T.setTop (mkF m pc L (.long z :: .int j :: .ref a :: S))) := by
  obtain ⟨locs, X, eT, N, hx, hby, hml, hZ, hown, hnm, hret, hlk, hn⟩ := H
  subst hp
  have A' := A
  obtain ⟨-, cl, A, r⟩ := A
  obtain ⟨T', h', X', e', W, st⟩ := stJ X hx hZ eT A (j := j) (o_inb r h0 h1) (g := mkF m pc L (.long z :: .int j :: .ref a :: S)) rfl rfl (hb hby hd)
  have en := o_nat h0
  have W2 : Wr h h' a i _ := en ▸ W
  exact oG.go st (k T' h' ⟨_, X', e', Fr.snoc X' N ha, hx, hby, hml, hZ, hown, hnm, hret, hlk, hn⟩ W2 (A'.same W2))
theorem o_static (H : oH p l e R s m args below meth c bc ml y rt Z n0 T h cells slots) {yc : MethodName} {bcc : ByteArray} {maxL i : Nat} {rtc : Option FieldType} {rm : Room} {Q' : Option Value → Heap → Prop} {St : List Value} (argsL : List Value) (S : List Value)
    (con : oC l Z n0 yc bcc maxL rtc rm rm.cells rm.slots argsL.toArray h Q') (wl : (Jvm.Cond.methodLink y.cls i yc).before a0 Z = true) (ws : (Jvm.Cond.static yc).before a0 Z = true) (wz : (Jvm.Cond.initialized yc.cls).before a0 Z = true) (wc : (Jvm.Cond.code yc bcc maxL rtc).before a0 Z = true) (hy : yc.cls ≠ "java/lang/invoke/MethodHandle" ∧ yc.cls ≠ "java/lang/invoke/VarHandle") (hlen : ∀ sig, parseMethodDescriptor yc.desc = some sig → argsL.length = sig.parameters.length) (hst : St = argsL.reverse ++ S) (hsz : L.size = ml) (hf : rm.frames + 1 ≤ R.frames) (hlo : (S.map fun v => v.category).sum + (maxL + 11) + rm.locals ≤ R.locals) (hc : cells + rm.cells ≤ R.cells) (hs : slots + rm.slots ≤ R.slots)
    (hd : decode bc pc = .ok (.invokestatic i, 3)) (hp : pc + 3 = pc') (k : ∀ (T' : State) (v : Option Value) (h' : Heap), oH p l e R s m args below meth c bc ml y rt Z n0 T' h' (cells + rm.cells) (slots + rm.slots) → Q' v h' → oG p e below s n0 kc ks Q (T'.setTop (mkF m pc' L (v.toList ++ S)))) : oG p e below s n0 kc ks Q (T.setTop (mkF m pc L St)) := by
  obtain ⟨locs, X, eT, N, hx, hby, hml, hZ, hown, hnm, hret, hlk, hn⟩ := H
  subst hp
  subst hst
  obtain ⟨v, _, ⟨T', L1, k1, n1⟩, -, X', ⟨Lc, hQ, l', y', z'⟩, st⟩ := Jvm.LawKit.callS X hx (y := yc) hown (mvT hZ wl) (mvT hZ ws) (mvT hZ wz) (mvT hZ wc) hy (backOf (W := (S.map fun v => v.category).sum) (Q := fun v h L => Q' v h ∧ Fr n0 L) (con []) hZ wc wz hf hlo) (g := mkF m pc L (argsL.reverse ++ S)) rfl (by rw [hml]; exact hsz) (argsL := argsL) (rest := S) hlen rfl (by show 2 * 0 + _ ≤ _; omega) (hb hby hd) (fun _ _ => ⟨rfl, eT, hc, hs⟩)
  dsimp only [Pt.U, Pt.locs, Pt.cells, Pt.slots] at X' l' y' z' st hQ
  subst l' y' z'
  exact oG.go (st) (k _ _ _ ⟨_, X', rfl, Fr.app N hQ.2, hx, hby, hml, hZ, hown, hnm, hret, hlk, hn⟩ hQ.1)
theorem o_special (H : oH p l e R s m args below meth c bc ml y rt Z n0 T h cells slots) {yc : MethodName} {bcc : ByteArray} {maxL i : Nat} {rm : Room} {a : Addr} {Q' : Option Value → Heap → Prop} {St : List Value} (argsL : List Value) (S : List Value)
    (con : oC l Z n0 yc bcc maxL none rm rm.cells rm.slots (.ref a :: argsL).toArray h Q') (hy1 : yc.name = "<init>") (wl : (Jvm.Cond.methodLink y.cls i yc).before a0 Z = true) (ws : (Jvm.Cond.instanceMethod yc).before a0 Z = true) (wz : (Jvm.Cond.initialized yc.cls).before a0 Z = true) (wc : (Jvm.Cond.code yc bcc maxL none).before a0 Z = true) (hy : yc.cls ≠ "java/lang/invoke/MethodHandle" ∧ yc.cls ≠ "java/lang/invoke/VarHandle") (hlen : ∀ sig, parseMethodDescriptor yc.desc = some sig → argsL.length = sig.parameters.length) (hst : St = argsL.reverse ++ .ref a :: S) (hsz : L.size = ml) (hf : rm.frames + 1 ≤ R.frames) (hlo : (S.map fun v => v.category).sum + (maxL + 11) + rm.locals ≤ R.locals) (hc : cells + rm.cells ≤ R.cells) (hs : slots + rm.slots ≤ R.slots)
    (hd : decode bc pc = .ok (.invokespecial i, 3)) (hp : pc + 3 = pc') (k : ∀ (T' : State) (v : Option Value) (h' : Heap), oH p l e R s m args below meth c bc ml y rt Z n0 T' h' (cells + rm.cells) (slots + rm.slots) → Q' v h' → oG p e below s n0 kc ks Q (T'.setTop (mkF m pc' L (v.toList ++ S)))) : oG p e below s n0 kc ks Q (T.setTop (mkF m pc L St)) := by
  obtain ⟨locs, X, eT, N, hx, hby, hml, hZ, hown, hnm, hret, hlk, hn⟩ := H
  subst hp
  subst hst
  obtain ⟨v, _, ⟨T', L1, k1, n1⟩, -, X', ⟨Lc, hQ, l', y', z'⟩, st⟩ := X.specialBack hx (y := yc) hy1 hown (mvT hZ wl) (mvT hZ ws) (mvT hZ wc) hy (backOf (W := (S.map fun v => v.category).sum) (Q := fun v h L => Q' v h ∧ Fr n0 L) (con []) hZ wc wz hf hlo) (g := mkF m pc L (argsL.reverse ++ .ref a :: S)) rfl (by rw [hml]; exact hsz) (Steps.refl _) (a := a) (argsL := argsL) (rest := S) hlen rfl (by show 2 * 0 + _ ≤ _; omega) (hb hby hd) (fun _ _ => ⟨rfl, eT, hc, hs⟩)
  dsimp only [Pt.U, Pt.locs, Pt.cells, Pt.slots] at X' l' y' z' st hQ
  subst l' y' z'
  exact oG.go (fun _ hr => st.trans hr) (k _ _ _ ⟨_, X', rfl, Fr.app N hQ.2, hx, hby, hml, hZ, hown, hnm, hret, hlk, hn⟩ hQ.1)
theorem o_virtual (H : oH p l e R s m args below meth c bc ml y rt Z n0 T h cells slots) {yc zc : MethodName} {K : String} {bcc : ByteArray} {maxL i : Nat} {rtc : Option FieldType} {rm : Room} {a : Addr} {Q' : Option Value → Heap → Prop} {St : List Value} (argsL : List Value) (S : List Value)
    (con : oC l Z n0 zc bcc maxL rtc rm rm.cells rm.slots (.ref a :: argsL).toArray h Q') (E : Exa Z h a K) (wl : (Jvm.Cond.methodLink y.cls i yc).before a0 Z = true) (wd : (Jvm.Cond.declares yc).before a0 Z = true) (hnf : ∀ {s' : State}, Z.Warmed39 s'.vm → NotFace s' yc) (wsel : (Jvm.Cond.selects K yc zc).before a0 Z = true) (ws : (Jvm.Cond.instanceMethod zc).before a0 Z = true) (wz : (Jvm.Cond.initialized zc.cls).before a0 Z = true) (wc : (Jvm.Cond.code zc bcc maxL rtc).before a0 Z = true) (hy : yc.cls ≠ "java/lang/invoke/MethodHandle" ∧ yc.cls ≠ "java/lang/invoke/VarHandle") (hlen : ∀ sig, parseMethodDescriptor yc.desc = some sig → argsL.length = sig.parameters.length) (hst : St = argsL.reverse ++ .ref a :: S) (hsz : L.size = ml) (hf : rm.frames + 1 ≤ R.frames) (hlo : (S.map fun v => v.category).sum + (maxL + 11) + rm.locals ≤ R.locals) (hc : cells + rm.cells ≤ R.cells) (hs : slots + rm.slots ≤ R.slots)
    (hd : decode bc pc = .ok (.invokevirtual i, 3)) (hp : pc + 3 = pc') (k : ∀ (T' : State) (v : Option Value) (h' : Heap), oH p l e R s m args below meth c bc ml y rt Z n0 T' h' (cells + rm.cells) (slots + rm.slots) → Q' v h' → oG p e below s n0 kc ks Q (T'.setTop (mkF m pc' L (v.toList ++ S)))) : oG p e below s n0 kc ks Q (T.setTop (mkF m pc L St)) := by
  obtain ⟨locs, X, eT, N, hx, hby, hml, hZ, hown, hnm, hret, hlk, hn⟩ := H
  subst hp
  subst hst
  obtain ⟨cq, kq, qa, qb, qc⟩ := isOf hZ eT E
  obtain ⟨v, _, ⟨T', L1, k1, n1⟩, -, X', ⟨Lc, hQ, l', y', z'⟩, st⟩ := X.virtualBack hx (y := yc) (z := zc) hown (mvT hZ wl) (mvT hZ wd) (hnf hZ) (mvT hZ wsel) (mvT hZ ws) hy (backOf (W := (S.map fun v => v.category).sum) (Q := fun v h L => Q' v h ∧ Fr n0 L) (con []) hZ wc wz hf hlo) qa qc (g := mkF m pc L (argsL.reverse ++ .ref a :: S)) rfl (by rw [hml]; exact hsz) (Steps.refl _) (argsL := argsL) (rest := S) hlen rfl (by show 2 * 0 + _ ≤ _; omega) (hb hby hd) (fun _ _ => ⟨rfl, eT, hc, hs⟩)
  dsimp only [Pt.U, Pt.locs, Pt.cells, Pt.slots] at X' l' y' z' st hQ
  subst l' y' z'
  exact oG.go (fun _ hr => st.trans hr) (k _ _ _ ⟨_, X', rfl, Fr.app N hQ.2, hx, hby, hml, hZ, hown, hnm, hret, hlk, hn⟩ hQ.1)
theorem o_nf {yc : MethodName} {K : String} (w : (Jvm.Cond.selects K yc yc).before a0 Z = true) : ∀ {s' : State}, Z.Warmed39 s'.vm → NotFace s' yc := fun {s'} hZ => notFace_of_selects (args := #[]) (mvT hZ w)
theorem n_lt (x z : Int32) : x < z ↔ x.toInt < z.toInt := Int32.lt_iff_toInt_lt
theorem n_eq (x z : Int32) : x = z ↔ x.toInt = z.toInt := Int32.toInt_inj.symm
theorem n_ltJ (x z : Int64) : x < z ↔ x.toInt < z.toInt := Int64.lt_iff_toInt_lt
theorem n_eqJ (x z : Int64) : x = z ↔ x.toInt = z.toInt := Int64.toInt_inj.symm
theorem n_and (x z : Int32) (h : 0 ≤ z.toInt) : 0 ≤ (x &&& z).toInt ∧ (x &&& z).toInt ≤ z.toInt := by
  have q : (x &&& z).toBitVec.toNat = x.toBitVec.toNat &&& z.toBitVec.toNat := by show (x.toBitVec &&& z.toBitVec).toNat = _; rw [BitVec.toNat_and]
  have o : x.toBitVec.toNat &&& z.toBitVec.toNat ≤ z.toBitVec.toNat := Nat.and_le_right
  have lm := z.toBitVec.isLt
  change 0 ≤ z.toBitVec.toInt at h
  show 0 ≤ (x &&& z).toBitVec.toInt ∧ (x &&& z).toBitVec.toInt ≤ z.toBitVec.toInt
  rw [BitVec.toInt_eq_toNat_cond] at h
  simp only [BitVec.toInt_eq_toNat_cond, q]
  split at h <;> (repeat' split) <;> omega
theorem n_andJ (x z : Int64) (h : 0 ≤ z.toInt) : 0 ≤ (x &&& z).toInt ∧ (x &&& z).toInt ≤ z.toInt := by
  have q : (x &&& z).toBitVec.toNat = x.toBitVec.toNat &&& z.toBitVec.toNat := by show (x.toBitVec &&& z.toBitVec).toNat = _; rw [BitVec.toNat_and]
  have o : x.toBitVec.toNat &&& z.toBitVec.toNat ≤ z.toBitVec.toNat := Nat.and_le_right
  have lm := z.toBitVec.isLt
  change 0 ≤ z.toBitVec.toInt at h
  show 0 ≤ (x &&& z).toBitVec.toInt ∧ (x &&& z).toBitVec.toInt ≤ z.toBitVec.toInt
  rw [BitVec.toInt_eq_toNat_cond] at h
  simp only [BitVec.toInt_eq_toNat_cond, q]
  split at h <;> (repeat' split) <;> omega
theorem n_rem (x z : Int32) (d : Int) (hd : 0 < d) (hz : z.toInt = d) (hx : 0 ≤ x.toInt) : (x % z).toInt = x.toInt % d := by
  rw [Int32.toInt_mod, hz, Int.tmod_eq_emod_of_nonneg hx]
theorem n_nat (x : Int32) (n : Nat) (h0 : 0 ≤ x.toInt) (h1 : x.toInt < n) : ∃ i : Fin n, x = Int32.ofNat i.1 := by
  refine ⟨⟨x.toInt.toNat, by omega⟩, ?_⟩
  rw [n_eq]
  have := Int32.toInt_lt x
  have e : (Int32.ofNat x.toInt.toNat).toInt = x.toInt.toNat := Int32.toInt_ofNat_of_lt (by omega)
  show x.toInt = (Int32.ofNat x.toInt.toNat).toInt
  rw [e]; omega
end Own
theorem w0 {Z : State} {a0 : Array Value} (hw : ∀ d ∈ tables_1, d.before a0 Z = true) : (Jvm.Cond.arrayClass Jvm.ClassFile.FieldType.char).before a0 Z = true := hw _ (List.mem_of_getElem? (i := 0) rfl)
theorem w1 {Z : State} {a0 : Array Value} (hw : ∀ d ∈ tables_1, d.before a0 Z = true) : (Jvm.Cond.methodLink "com/example/encase/encase/codec/Base32FormatUncompressedPinLaw" (7 : Nat) ({ cls := "com/example/encase/encase/codec/Base32Format", name := "uncompressed", desc := "(I[C)[B" } : Jvm.MethodName)).before a0 Z = true := hw _ (List.mem_of_getElem? (i := 1) rfl)
theorem w2 {Z : State} {a0 : Array Value} (hw : ∀ d ∈ tables_1, d.before a0 Z = true) : (Jvm.Cond.static ({ cls := "com/example/encase/encase/codec/Base32Format", name := "uncompressed", desc := "(I[C)[B" } : Jvm.MethodName)).before a0 Z = true := hw _ (List.mem_of_getElem? (i := 2) rfl)
theorem w3 {Z : State} {a0 : Array Value} (hw : ∀ d ∈ tables_1, d.before a0 Z = true) : (Jvm.Cond.initialized "com/example/encase/encase/codec/Base32Format").before a0 Z = true := hw _ (List.mem_of_getElem? (i := 3) rfl)
theorem w4 {Z : State} {a0 : Array Value} (hw : ∀ d ∈ tables_1, d.before a0 Z = true) : (Jvm.Cond.code ({ cls := "com/example/encase/encase/codec/Base32Format", name := "uncompressed", desc := "(I[C)[B" } : Jvm.MethodName) prog_17_method_9_code (5 : Nat) (Option.some (Jvm.ClassFile.FieldType.array Jvm.ClassFile.FieldType.byte))).before a0 Z = true := hw _ (List.mem_of_getElem? (i := 4) rfl)
theorem w5 {Z : State} {a0 : Array Value} (hw : ∀ d ∈ tables_1, d.before a0 Z = true) : (Jvm.Cond.arrayClass Jvm.ClassFile.FieldType.byte).before a0 Z = true := hw _ (List.mem_of_getElem? (i := 5) rfl)
theorem w6 {Z : State} {a0 : Array Value} (hw : ∀ d ∈ tables_1, d.before a0 Z = true) : (Jvm.Cond.methodLink "com/example/encase/encase/codec/Base32FormatUncompressedPinLaw" (13 : Nat) ({ cls := "com/example/encase/encase/codec/Base32FormatUncompressedPinLaw", name := "pair", desc := "([BIC)Z" } : Jvm.MethodName)).before a0 Z = true := hw _ (List.mem_of_getElem? (i := 6) rfl)
theorem w7 {Z : State} {a0 : Array Value} (hw : ∀ d ∈ tables_1, d.before a0 Z = true) : (Jvm.Cond.static ({ cls := "com/example/encase/encase/codec/Base32FormatUncompressedPinLaw", name := "pair", desc := "([BIC)Z" } : Jvm.MethodName)).before a0 Z = true := hw _ (List.mem_of_getElem? (i := 7) rfl)
theorem w8 {Z : State} {a0 : Array Value} (hw : ∀ d ∈ tables_1, d.before a0 Z = true) : (Jvm.Cond.initialized "com/example/encase/encase/codec/Base32FormatUncompressedPinLaw").before a0 Z = true := hw _ (List.mem_of_getElem? (i := 8) rfl)
theorem w9 {Z : State} {a0 : Array Value} (hw : ∀ d ∈ tables_1, d.before a0 Z = true) : (Jvm.Cond.code ({ cls := "com/example/encase/encase/codec/Base32FormatUncompressedPinLaw", name := "pair", desc := "([BIC)Z" } : Jvm.MethodName) method_3_code (5 : Nat) (Option.some Jvm.ClassFile.FieldType.boolean)).before a0 Z = true := hw _ (List.mem_of_getElem? (i := 9) rfl)
def own_pair (b c u : Int32) : Int32 := if ¬ (b &&& 255) = u / 256 then 0 else if ¬ (c &&& 255) = u % 256 then 0 else 1
theorem own_b (b : Int32) : (nar .byte b &&& 255).toInt = b.toInt % 256 := by
  have h1 := c_mask (b.toInt8.toInt32) 255 8 (by decide) rfl
  have h2 := (c_i2b b).1
  have e : ((2 ^ 8 : Nat) : Int) = 256 := rfl
  show (b.toInt8.toInt32 &&& 255).toInt = _
  rw [h1, e]; omega
theorem own_c (a : Int32) : nar .char (a.toUInt32.toUInt16.toUInt32.toInt32) = a.toUInt32.toUInt16.toUInt32.toInt32 := by
  have h1 := c_i2c a
  have h2 := c_i2c (a.toUInt32.toUInt16.toUInt32.toInt32)
  rw [n_eq]
  show (a.toUInt32.toUInt16.toUInt32.toInt32).toUInt32.toUInt16.toUInt32.toInt32.toInt = _
  omega
theorem own_ok (a u : Int32) (hu : u = a.toUInt32.toUInt16.toUInt32.toInt32) : own_pair (nar .byte ((XT.ushr (nar .char u) 8).toInt8.toInt32)) (nar .byte ((nar .char u).toInt8.toInt32)) u = 1 := by
  subst hu
  rw [own_c]
  have h1 := c_i2c a
  generalize a.toUInt32.toUInt16.toUInt32.toInt32 = u at *
  have h2 := c_iushr u 8 8 (by decide) (by decide)
  have h2' : (XT.ushr u 8).toInt = (u.toInt % 4294967296) / 256 := h2
  have h3 := own_b ((XT.ushr u 8).toInt8.toInt32)
  have h4 := own_b (u.toInt8.toInt32)
  have h5 := (c_i2b (XT.ushr u 8)).1
  have h6 := (c_i2b u).1
  have h7 := (c_idiv u 256 256 rfl (by decide)).1 h1.2.1
  have h8 := (c_irem u 256 256 rfl).1 h1.2.1
  simp only [own_pair, n_eq, h3, h4, h7, h8]
  rw [if_neg (by omega), if_neg (by omega)]
theorem own_low (a : Int32) : (nar .byte (a.toInt8.toInt32) &&& 255) = ((a % 256) + 256) % 256 := by
  have h1 := own_b (a.toInt8.toInt32)
  have h2 := (c_i2b a).1
  have h3 := c_irem a 256 256 rfl
  have h4 := c_iadd (a % 256) 256
  have h5 := (c_irem (a % 256 + 256) 256 256 rfl).1
  have e : (256 : Int32).toInt = 256 := rfl
  have r := Int32.le_toInt a; have r' := Int32.toInt_lt a; have r2 := Int32.le_toInt (a % 256 + 256); have r3 := Int32.toInt_lt (a % 256 + 256)
  rw [n_eq, h1]
  by_cases q : 0 ≤ a.toInt
  · have := h3.1 q; rw [h5 (by omega)]; omega
  · have := h3.2 (by omega); rw [h5 (by omega)]; omega
theorem d1_0 : decode prog_17_method_9_code 0 = .ok (.iconst 1, 1) := by decide +kernel
theorem d1_1 : decode prog_17_method_9_code 1 = .ok (.iconst 2, 1) := by decide +kernel
theorem d1_2 : decode prog_17_method_9_code 2 = .ok (.aload_n 1, 1) := by decide +kernel
theorem d1_3 : decode prog_17_method_9_code 3 = .ok (.arraylength, 1) := by decide +kernel
theorem d1_4 : decode prog_17_method_9_code 4 = .ok (.imul, 1) := by decide +kernel
theorem d1_5 : decode prog_17_method_9_code 5 = .ok (.iadd, 1) := by decide +kernel
theorem d1_6 : decode prog_17_method_9_code 6 = .ok (.newarray .byte, 2) := by decide +kernel
theorem d1_8 : decode prog_17_method_9_code 8 = .ok (.astore_n 2, 1) := by decide +kernel
theorem d1_9 : decode prog_17_method_9_code 9 = .ok (.aload_n 2, 1) := by decide +kernel
theorem d1_10 : decode prog_17_method_9_code 10 = .ok (.iconst 0, 1) := by decide +kernel
theorem d1_11 : decode prog_17_method_9_code 11 = .ok (.iload_n 0, 1) := by decide +kernel
theorem d1_12 : decode prog_17_method_9_code 12 = .ok (.i2b, 1) := by decide +kernel
theorem d1_13 : decode prog_17_method_9_code 13 = .ok (.bastore, 1) := by decide +kernel
theorem d1_14 : decode prog_17_method_9_code 14 = .ok (.iconst 0, 1) := by decide +kernel
theorem d1_15 : decode prog_17_method_9_code 15 = .ok (.istore_n 3, 1) := by decide +kernel
theorem d1_16 : decode prog_17_method_9_code 16 = .ok (.iload_n 3, 1) := by decide +kernel
theorem d1_17 : decode prog_17_method_9_code 17 = .ok (.aload_n 1, 1) := by decide +kernel
theorem d1_18 : decode prog_17_method_9_code 18 = .ok (.arraylength, 1) := by decide +kernel
theorem d1_19 : decode prog_17_method_9_code 19 = .ok (.if_icmp .ge 37, 3) := by decide +kernel
theorem d1_22 : decode prog_17_method_9_code 22 = .ok (.aload_n 1, 1) := by decide +kernel
theorem d1_23 : decode prog_17_method_9_code 23 = .ok (.iload_n 3, 1) := by decide +kernel
theorem d1_24 : decode prog_17_method_9_code 24 = .ok (.caload, 1) := by decide +kernel
theorem d1_25 : decode prog_17_method_9_code 25 = .ok (.istore 4, 2) := by decide +kernel
theorem d1_27 : decode prog_17_method_9_code 27 = .ok (.aload_n 2, 1) := by decide +kernel
theorem d1_28 : decode prog_17_method_9_code 28 = .ok (.iconst 1, 1) := by decide +kernel
theorem d1_29 : decode prog_17_method_9_code 29 = .ok (.iconst 2, 1) := by decide +kernel
theorem d1_30 : decode prog_17_method_9_code 30 = .ok (.iload_n 3, 1) := by decide +kernel
theorem d1_31 : decode prog_17_method_9_code 31 = .ok (.imul, 1) := by decide +kernel
theorem d1_32 : decode prog_17_method_9_code 32 = .ok (.iadd, 1) := by decide +kernel
theorem d1_33 : decode prog_17_method_9_code 33 = .ok (.iload 4, 2) := by decide +kernel
theorem d1_35 : decode prog_17_method_9_code 35 = .ok (.bipush 8, 2) := by decide +kernel
theorem d1_37 : decode prog_17_method_9_code 37 = .ok (.iushr, 1) := by decide +kernel
theorem d1_38 : decode prog_17_method_9_code 38 = .ok (.i2b, 1) := by decide +kernel
theorem d1_39 : decode prog_17_method_9_code 39 = .ok (.bastore, 1) := by decide +kernel
theorem d1_40 : decode prog_17_method_9_code 40 = .ok (.aload_n 2, 1) := by decide +kernel
theorem d1_41 : decode prog_17_method_9_code 41 = .ok (.iconst 2, 1) := by decide +kernel
theorem d1_42 : decode prog_17_method_9_code 42 = .ok (.iconst 2, 1) := by decide +kernel
theorem d1_43 : decode prog_17_method_9_code 43 = .ok (.iload_n 3, 1) := by decide +kernel
theorem d1_44 : decode prog_17_method_9_code 44 = .ok (.imul, 1) := by decide +kernel
theorem d1_45 : decode prog_17_method_9_code 45 = .ok (.iadd, 1) := by decide +kernel
theorem d1_46 : decode prog_17_method_9_code 46 = .ok (.iload 4, 2) := by decide +kernel
theorem d1_48 : decode prog_17_method_9_code 48 = .ok (.i2b, 1) := by decide +kernel
theorem d1_49 : decode prog_17_method_9_code 49 = .ok (.bastore, 1) := by decide +kernel
theorem d1_50 : decode prog_17_method_9_code 50 = .ok (.iinc 3 1, 3) := by decide +kernel
theorem d1_53 : decode prog_17_method_9_code 53 = .ok (.goto (-37), 3) := by decide +kernel
theorem d1_56 : decode prog_17_method_9_code 56 = .ok (.aload_n 2, 1) := by decide +kernel
theorem d1_57 : decode prog_17_method_9_code 57 = .ok (.areturn, 1) := by decide +kernel
theorem pn1 : plainFor (⟨"com/example/encase/encase/codec/Base32Format", "uncompressed", "(I[C)[B"⟩ : MethodName) = true := plainFor_of_name (by first | (simp [plainName, overriddenIn]; done) | decide +kernel)
theorem pd1 : parseMethodDescriptor "(I[C)[B" = some ⟨[.int, (.array .char)], some (.array .byte)⟩ := by decide +kernel
set_option maxRecDepth 65536 in
set_option maxHeartbeats 40000000 in
theorem rm1_0 (l : Launch) (Z : State) (a0 : Array Value) (hw : ∀ d ∈ tables_1, d.before a0 Z = true) (p1 : Int32) (a1 : Addr)  (h0 : Heap) (n0 : Nat) (Z0 : n0 ≤ h0.size) (A_a1 : oA .char Z h0 a1 []) :
    oC l Z n0 (⟨"com/example/encase/encase/codec/Base32Format", "uncompressed", "(I[C)[B"⟩ : MethodName) prog_17_method_9_code 5 (some (.array .byte)) ({ frames := 0, cells := 1, slots := 7, locals := 0 } : Room) 1 7 #[(.int p1), (.ref a1)] h0 (fun v h => ∃ r, v = some (.ref r) ∧ Keep h0 h [] ∧ h0.size ≤ r ∧ oA .byte Z h r [(.int (nar .byte (p1.toInt8.toInt32)))]) := by
  refine oC.of (L := #[.val (.int p1), .val (.ref a1), .unset, .unset, .unset]) pn1 Z0 (fun m => by first | (simp [entryFrame, mkF, argsToLocals, Value.category]; done) | rfl) ?_
  intro p e s m below meth c T H
  refine o_iconst H (1 : Int32) rfl d1_0 rfl ?_
  refine o_iconst H (2 : Int32) rfl d1_1 rfl ?_
  refine o_aloadN H rfl rfl d1_2 rfl ?_
  refine o_arraylength H (0 : Int32) A_a1 rfl d1_3 rfl ?_
  refine o_imul H d1_4 rfl ?_
  refine o_fold (0 : Int32) (by decide) ?_
  refine o_iadd H d1_5 rfl ?_
  refine o_fold (1 : Int32) (by decide) ?_
  refine o_newarr (aty := .byte) H 1 1 (w5 hw) (by decide) (by decide) (by decide) d1_6 rfl (by decide) (by decide) ?_
  intro T1 h1 b1 g1 H1 E1 A1
  have ne1_a1 : a1 ≠ b1 := by rw [g1]; exact Nat.ne_of_lt (A_a1).lt
  have z1 : n0 ≤ b1 := by rw [g1]; exact H.le
  have y1 : h0.size ≤ b1 := by rw [g1]; exact (Keep.refl h0 []).1
  have k2 := (Keep.refl h0 []).ext E1
  have f3 := A_a1.ext E1
  have f4 : oA .byte Z h1 b1 [(.int 0)] := A1
  refine o_astoreN H1 (L' := #[.val (.int p1), .val (.ref a1), .val (.ref b1), .unset, .unset]) rfl rfl d1_8 rfl ?_
  refine o_aloadN H1 rfl rfl d1_9 rfl ?_
  refine o_iconst H1 (0 : Int32) rfl d1_10 rfl ?_
  refine o_iloadN H1 rfl d1_11 rfl ?_
  refine o_i2b H1 d1_12 rfl ?_
  refine o_bastore H1 0 f4 (by decide) (Nat.le_of_ble_eq_true rfl) z1 d1_13 rfl ?_
  intro T5 h5 H5 W5 A5
  have k6 := k2.wr W5 (Or.inr y1)
  have f7 := f3.other W5 ne1_a1
  have f8 : oA .byte Z h5 b1 [(.int (nar .byte (p1.toInt8.toInt32)))] := A5
  refine o_iconst H5 (0 : Int32) rfl d1_14 rfl ?_
  refine o_istoreN H5 (L' := #[.val (.int p1), .val (.ref a1), .val (.ref b1), .val (.int (0 : Int32)), .unset]) rfl d1_15 rfl ?_
  refine o_iloadN H5 rfl d1_16 rfl ?_
  refine o_aloadN H5 rfl rfl d1_17 rfl ?_
  refine o_arraylength H5 (0 : Int32) f7 rfl d1_18 rfl ?_
  refine o_icmp_t H5 d1_19 (by decide) (pt := 56) (by decide) (by decide) ?_
  refine o_aloadN H5 rfl rfl d1_56 rfl ?_
  exact o_areturn H5 rfl rfl rfl rfl d1_57 (by decide) (by decide) ⟨_, rfl, k6, y1, f8⟩
set_option maxRecDepth 65536 in
set_option maxHeartbeats 40000000 in
theorem rm1_1 (l : Launch) (Z : State) (a0 : Array Value) (hw : ∀ d ∈ tables_1, d.before a0 Z = true) (p1 : Int32) (a1 : Addr) (u0 : Int32) (h0 : Heap) (n0 : Nat) (Z0 : n0 ≤ h0.size) (A_a1 : oA .char Z h0 a1 [(.int u0)]) :
    oC l Z n0 (⟨"com/example/encase/encase/codec/Base32Format", "uncompressed", "(I[C)[B"⟩ : MethodName) prog_17_method_9_code 5 (some (.array .byte)) ({ frames := 0, cells := 1, slots := 7, locals := 0 } : Room) 1 7 #[(.int p1), (.ref a1)] h0 (fun v h => ∃ r, v = some (.ref r) ∧ Keep h0 h [] ∧ h0.size ≤ r ∧ oA .byte Z h r [(.int (nar .byte (p1.toInt8.toInt32))), (.int (nar .byte ((XT.ushr u0 (8 : Int32)).toInt8.toInt32))), (.int (nar .byte (u0.toInt8.toInt32)))]) := by
  refine oC.of (L := #[.val (.int p1), .val (.ref a1), .unset, .unset, .unset]) pn1 Z0 (fun m => by first | (simp [entryFrame, mkF, argsToLocals, Value.category]; done) | rfl) ?_
  intro p e s m below meth c T H
  refine o_iconst H (1 : Int32) rfl d1_0 rfl ?_
  refine o_iconst H (2 : Int32) rfl d1_1 rfl ?_
  refine o_aloadN H rfl rfl d1_2 rfl ?_
  refine o_arraylength H (1 : Int32) A_a1 rfl d1_3 rfl ?_
  refine o_imul H d1_4 rfl ?_
  refine o_fold (2 : Int32) (by decide) ?_
  refine o_iadd H d1_5 rfl ?_
  refine o_fold (3 : Int32) (by decide) ?_
  refine o_newarr (aty := .byte) H 3 3 (w5 hw) (by decide) (by decide) (by decide) d1_6 rfl (by decide) (by decide) ?_
  intro T1 h1 b1 g1 H1 E1 A1
  have ne1_a1 : a1 ≠ b1 := by rw [g1]; exact Nat.ne_of_lt (A_a1).lt
  have z1 : n0 ≤ b1 := by rw [g1]; exact H.le
  have y1 : h0.size ≤ b1 := by rw [g1]; exact (Keep.refl h0 []).1
  have k2 := (Keep.refl h0 []).ext E1
  have f3 := A_a1.ext E1
  have f4 : oA .byte Z h1 b1 [(.int 0), (.int 0), (.int 0)] := A1
  refine o_astoreN H1 (L' := #[.val (.int p1), .val (.ref a1), .val (.ref b1), .unset, .unset]) rfl rfl d1_8 rfl ?_
  refine o_aloadN H1 rfl rfl d1_9 rfl ?_
  refine o_iconst H1 (0 : Int32) rfl d1_10 rfl ?_
  refine o_iloadN H1 rfl d1_11 rfl ?_
  refine o_i2b H1 d1_12 rfl ?_
  refine o_bastore H1 0 f4 (by decide) (Nat.le_of_ble_eq_true rfl) z1 d1_13 rfl ?_
  intro T5 h5 H5 W5 A5
  have k6 := k2.wr W5 (Or.inr y1)
  have f7 := f3.other W5 ne1_a1
  have f8 : oA .byte Z h5 b1 [(.int (nar .byte (p1.toInt8.toInt32))), (.int 0), (.int 0)] := A5
  refine o_iconst H5 (0 : Int32) rfl d1_14 rfl ?_
  refine o_istoreN H5 (L' := #[.val (.int p1), .val (.ref a1), .val (.ref b1), .val (.int (0 : Int32)), .unset]) rfl d1_15 rfl ?_
  refine o_iloadN H5 rfl d1_16 rfl ?_
  refine o_aloadN H5 rfl rfl d1_17 rfl ?_
  refine o_arraylength H5 (1 : Int32) f7 rfl d1_18 rfl ?_
  refine o_icmp_f H5 d1_19 (by decide) rfl ?_
  refine o_aloadN H5 rfl rfl d1_22 rfl ?_
  refine o_iloadN H5 rfl d1_23 rfl ?_
  refine o_caload H5 0 (.int u0) f7 (by decide) rfl d1_24 rfl ?_
  refine o_istore H5 (L' := #[.val (.int p1), .val (.ref a1), .val (.ref b1), .val (.int (0 : Int32)), .val (.int u0)]) rfl d1_25 rfl ?_
  refine o_aloadN H5 rfl rfl d1_27 rfl ?_
  refine o_iconst H5 (1 : Int32) rfl d1_28 rfl ?_
  refine o_iconst H5 (2 : Int32) rfl d1_29 rfl ?_
  refine o_iloadN H5 rfl d1_30 rfl ?_
  refine o_imul H5 d1_31 rfl ?_
  refine o_fold (0 : Int32) (by decide) ?_
  refine o_iadd H5 d1_32 rfl ?_
  refine o_fold (1 : Int32) (by decide) ?_
  refine o_iload H5 rfl d1_33 rfl ?_
  refine o_bipush H5 (8 : Int32) rfl d1_35 rfl ?_
  refine o_iushr H5 d1_37 rfl ?_
  refine o_i2b H5 d1_38 rfl ?_
  refine o_bastore H5 1 f8 (by decide) (Nat.le_of_ble_eq_true rfl) z1 d1_39 rfl ?_
  intro T9 h9 H9 W9 A9
  have k10 := k6.wr W9 (Or.inr y1)
  have f11 := f7.other W9 ne1_a1
  have f12 : oA .byte Z h9 b1 [(.int (nar .byte (p1.toInt8.toInt32))), (.int (nar .byte ((XT.ushr u0 (8 : Int32)).toInt8.toInt32))), (.int 0)] := A9
  refine o_aloadN H9 rfl rfl d1_40 rfl ?_
  refine o_iconst H9 (2 : Int32) rfl d1_41 rfl ?_
  refine o_iconst H9 (2 : Int32) rfl d1_42 rfl ?_
  refine o_iloadN H9 rfl d1_43 rfl ?_
  refine o_imul H9 d1_44 rfl ?_
  refine o_fold (0 : Int32) (by decide) ?_
  refine o_iadd H9 d1_45 rfl ?_
  refine o_fold (2 : Int32) (by decide) ?_
  refine o_iload H9 rfl d1_46 rfl ?_
  refine o_i2b H9 d1_48 rfl ?_
  refine o_bastore H9 2 f12 (by decide) (Nat.le_of_ble_eq_true rfl) z1 d1_49 rfl ?_
  intro T13 h13 H13 W13 A13
  have k14 := k10.wr W13 (Or.inr y1)
  have f15 := f11.other W13 ne1_a1
  have f16 : oA .byte Z h13 b1 [(.int (nar .byte (p1.toInt8.toInt32))), (.int (nar .byte ((XT.ushr u0 (8 : Int32)).toInt8.toInt32))), (.int (nar .byte (u0.toInt8.toInt32)))] := A13
  refine o_iinc H13 (1 : Int32) (1 : Int32) rfl (by decide) rfl (L' := #[.val (.int p1), .val (.ref a1), .val (.ref b1), .val (.int (1 : Int32)), .val (.int u0)]) rfl d1_50 rfl ?_
  refine o_goto H13 d1_53 (pt := 16) (by decide) (by decide) ?_
  refine o_iloadN H13 rfl d1_16 rfl ?_
  refine o_aloadN H13 rfl rfl d1_17 rfl ?_
  refine o_arraylength H13 (1 : Int32) f15 rfl d1_18 rfl ?_
  refine o_icmp_t H13 d1_19 (by decide) (pt := 56) (by decide) (by decide) ?_
  refine o_aloadN H13 rfl rfl d1_56 rfl ?_
  exact o_areturn H13 rfl rfl rfl rfl d1_57 (by decide) (by decide) ⟨_, rfl, k14, y1, f16⟩
set_option maxRecDepth 65536 in
set_option maxHeartbeats 40000000 in
theorem rm1_2 (l : Launch) (Z : State) (a0 : Array Value) (hw : ∀ d ∈ tables_1, d.before a0 Z = true) (p1 : Int32) (a1 : Addr) (u0 : Int32) (u1 : Int32) (h0 : Heap) (n0 : Nat) (Z0 : n0 ≤ h0.size) (A_a1 : oA .char Z h0 a1 [(.int u0), (.int u1)]) :
    oC l Z n0 (⟨"com/example/encase/encase/codec/Base32Format", "uncompressed", "(I[C)[B"⟩ : MethodName) prog_17_method_9_code 5 (some (.array .byte)) ({ frames := 0, cells := 1, slots := 7, locals := 0 } : Room) 1 7 #[(.int p1), (.ref a1)] h0 (fun v h => ∃ r, v = some (.ref r) ∧ Keep h0 h [] ∧ h0.size ≤ r ∧ oA .byte Z h r [(.int (nar .byte (p1.toInt8.toInt32))), (.int (nar .byte ((XT.ushr u0 (8 : Int32)).toInt8.toInt32))), (.int (nar .byte (u0.toInt8.toInt32))), (.int (nar .byte ((XT.ushr u1 (8 : Int32)).toInt8.toInt32))), (.int (nar .byte (u1.toInt8.toInt32)))]) := by
  refine oC.of (L := #[.val (.int p1), .val (.ref a1), .unset, .unset, .unset]) pn1 Z0 (fun m => by first | (simp [entryFrame, mkF, argsToLocals, Value.category]; done) | rfl) ?_
  intro p e s m below meth c T H
  refine o_iconst H (1 : Int32) rfl d1_0 rfl ?_
  refine o_iconst H (2 : Int32) rfl d1_1 rfl ?_
  refine o_aloadN H rfl rfl d1_2 rfl ?_
  refine o_arraylength H (2 : Int32) A_a1 rfl d1_3 rfl ?_
  refine o_imul H d1_4 rfl ?_
  refine o_fold (4 : Int32) (by decide) ?_
  refine o_iadd H d1_5 rfl ?_
  refine o_fold (5 : Int32) (by decide) ?_
  refine o_newarr (aty := .byte) H 5 5 (w5 hw) (by decide) (by decide) (by decide) d1_6 rfl (by decide) (by decide) ?_
  intro T1 h1 b1 g1 H1 E1 A1
  have ne1_a1 : a1 ≠ b1 := by rw [g1]; exact Nat.ne_of_lt (A_a1).lt
  have z1 : n0 ≤ b1 := by rw [g1]; exact H.le
  have y1 : h0.size ≤ b1 := by rw [g1]; exact (Keep.refl h0 []).1
  have k2 := (Keep.refl h0 []).ext E1
  have f3 := A_a1.ext E1
  have f4 : oA .byte Z h1 b1 [(.int 0), (.int 0), (.int 0), (.int 0), (.int 0)] := A1
  refine o_astoreN H1 (L' := #[.val (.int p1), .val (.ref a1), .val (.ref b1), .unset, .unset]) rfl rfl d1_8 rfl ?_
  refine o_aloadN H1 rfl rfl d1_9 rfl ?_
  refine o_iconst H1 (0 : Int32) rfl d1_10 rfl ?_
  refine o_iloadN H1 rfl d1_11 rfl ?_
  refine o_i2b H1 d1_12 rfl ?_
  refine o_bastore H1 0 f4 (by decide) (Nat.le_of_ble_eq_true rfl) z1 d1_13 rfl ?_
  intro T5 h5 H5 W5 A5
  have k6 := k2.wr W5 (Or.inr y1)
  have f7 := f3.other W5 ne1_a1
  have f8 : oA .byte Z h5 b1 [(.int (nar .byte (p1.toInt8.toInt32))), (.int 0), (.int 0), (.int 0), (.int 0)] := A5
  refine o_iconst H5 (0 : Int32) rfl d1_14 rfl ?_
  refine o_istoreN H5 (L' := #[.val (.int p1), .val (.ref a1), .val (.ref b1), .val (.int (0 : Int32)), .unset]) rfl d1_15 rfl ?_
  refine o_iloadN H5 rfl d1_16 rfl ?_
  refine o_aloadN H5 rfl rfl d1_17 rfl ?_
  refine o_arraylength H5 (2 : Int32) f7 rfl d1_18 rfl ?_
  refine o_icmp_f H5 d1_19 (by decide) rfl ?_
  refine o_aloadN H5 rfl rfl d1_22 rfl ?_
  refine o_iloadN H5 rfl d1_23 rfl ?_
  refine o_caload H5 0 (.int u0) f7 (by decide) rfl d1_24 rfl ?_
  refine o_istore H5 (L' := #[.val (.int p1), .val (.ref a1), .val (.ref b1), .val (.int (0 : Int32)), .val (.int u0)]) rfl d1_25 rfl ?_
  refine o_aloadN H5 rfl rfl d1_27 rfl ?_
  refine o_iconst H5 (1 : Int32) rfl d1_28 rfl ?_
  refine o_iconst H5 (2 : Int32) rfl d1_29 rfl ?_
  refine o_iloadN H5 rfl d1_30 rfl ?_
  refine o_imul H5 d1_31 rfl ?_
  refine o_fold (0 : Int32) (by decide) ?_
  refine o_iadd H5 d1_32 rfl ?_
  refine o_fold (1 : Int32) (by decide) ?_
  refine o_iload H5 rfl d1_33 rfl ?_
  refine o_bipush H5 (8 : Int32) rfl d1_35 rfl ?_
  refine o_iushr H5 d1_37 rfl ?_
  refine o_i2b H5 d1_38 rfl ?_
  refine o_bastore H5 1 f8 (by decide) (Nat.le_of_ble_eq_true rfl) z1 d1_39 rfl ?_
  intro T9 h9 H9 W9 A9
  have k10 := k6.wr W9 (Or.inr y1)
  have f11 := f7.other W9 ne1_a1
  have f12 : oA .byte Z h9 b1 [(.int (nar .byte (p1.toInt8.toInt32))), (.int (nar .byte ((XT.ushr u0 (8 : Int32)).toInt8.toInt32))), (.int 0), (.int 0), (.int 0)] := A9
  refine o_aloadN H9 rfl rfl d1_40 rfl ?_
  refine o_iconst H9 (2 : Int32) rfl d1_41 rfl ?_
  refine o_iconst H9 (2 : Int32) rfl d1_42 rfl ?_
  refine o_iloadN H9 rfl d1_43 rfl ?_
  refine o_imul H9 d1_44 rfl ?_
  refine o_fold (0 : Int32) (by decide) ?_
  refine o_iadd H9 d1_45 rfl ?_
  refine o_fold (2 : Int32) (by decide) ?_
  refine o_iload H9 rfl d1_46 rfl ?_
  refine o_i2b H9 d1_48 rfl ?_
  refine o_bastore H9 2 f12 (by decide) (Nat.le_of_ble_eq_true rfl) z1 d1_49 rfl ?_
  intro T13 h13 H13 W13 A13
  have k14 := k10.wr W13 (Or.inr y1)
  have f15 := f11.other W13 ne1_a1
  have f16 : oA .byte Z h13 b1 [(.int (nar .byte (p1.toInt8.toInt32))), (.int (nar .byte ((XT.ushr u0 (8 : Int32)).toInt8.toInt32))), (.int (nar .byte (u0.toInt8.toInt32))), (.int 0), (.int 0)] := A13
  refine o_iinc H13 (1 : Int32) (1 : Int32) rfl (by decide) rfl (L' := #[.val (.int p1), .val (.ref a1), .val (.ref b1), .val (.int (1 : Int32)), .val (.int u0)]) rfl d1_50 rfl ?_
  refine o_goto H13 d1_53 (pt := 16) (by decide) (by decide) ?_
  refine o_iloadN H13 rfl d1_16 rfl ?_
  refine o_aloadN H13 rfl rfl d1_17 rfl ?_
  refine o_arraylength H13 (2 : Int32) f15 rfl d1_18 rfl ?_
  refine o_icmp_f H13 d1_19 (by decide) rfl ?_
  refine o_aloadN H13 rfl rfl d1_22 rfl ?_
  refine o_iloadN H13 rfl d1_23 rfl ?_
  refine o_caload H13 1 (.int u1) f15 (by decide) rfl d1_24 rfl ?_
  refine o_istore H13 (L' := #[.val (.int p1), .val (.ref a1), .val (.ref b1), .val (.int (1 : Int32)), .val (.int u1)]) rfl d1_25 rfl ?_
  refine o_aloadN H13 rfl rfl d1_27 rfl ?_
  refine o_iconst H13 (1 : Int32) rfl d1_28 rfl ?_
  refine o_iconst H13 (2 : Int32) rfl d1_29 rfl ?_
  refine o_iloadN H13 rfl d1_30 rfl ?_
  refine o_imul H13 d1_31 rfl ?_
  refine o_fold (2 : Int32) (by decide) ?_
  refine o_iadd H13 d1_32 rfl ?_
  refine o_fold (3 : Int32) (by decide) ?_
  refine o_iload H13 rfl d1_33 rfl ?_
  refine o_bipush H13 (8 : Int32) rfl d1_35 rfl ?_
  refine o_iushr H13 d1_37 rfl ?_
  refine o_i2b H13 d1_38 rfl ?_
  refine o_bastore H13 3 f16 (by decide) (Nat.le_of_ble_eq_true rfl) z1 d1_39 rfl ?_
  intro T17 h17 H17 W17 A17
  have k18 := k14.wr W17 (Or.inr y1)
  have f19 := f15.other W17 ne1_a1
  have f20 : oA .byte Z h17 b1 [(.int (nar .byte (p1.toInt8.toInt32))), (.int (nar .byte ((XT.ushr u0 (8 : Int32)).toInt8.toInt32))), (.int (nar .byte (u0.toInt8.toInt32))), (.int (nar .byte ((XT.ushr u1 (8 : Int32)).toInt8.toInt32))), (.int 0)] := A17
  refine o_aloadN H17 rfl rfl d1_40 rfl ?_
  refine o_iconst H17 (2 : Int32) rfl d1_41 rfl ?_
  refine o_iconst H17 (2 : Int32) rfl d1_42 rfl ?_
  refine o_iloadN H17 rfl d1_43 rfl ?_
  refine o_imul H17 d1_44 rfl ?_
  refine o_fold (2 : Int32) (by decide) ?_
  refine o_iadd H17 d1_45 rfl ?_
  refine o_fold (4 : Int32) (by decide) ?_
  refine o_iload H17 rfl d1_46 rfl ?_
  refine o_i2b H17 d1_48 rfl ?_
  refine o_bastore H17 4 f20 (by decide) (Nat.le_of_ble_eq_true rfl) z1 d1_49 rfl ?_
  intro T21 h21 H21 W21 A21
  have k22 := k18.wr W21 (Or.inr y1)
  have f23 := f19.other W21 ne1_a1
  have f24 : oA .byte Z h21 b1 [(.int (nar .byte (p1.toInt8.toInt32))), (.int (nar .byte ((XT.ushr u0 (8 : Int32)).toInt8.toInt32))), (.int (nar .byte (u0.toInt8.toInt32))), (.int (nar .byte ((XT.ushr u1 (8 : Int32)).toInt8.toInt32))), (.int (nar .byte (u1.toInt8.toInt32)))] := A21
  refine o_iinc H21 (1 : Int32) (2 : Int32) rfl (by decide) rfl (L' := #[.val (.int p1), .val (.ref a1), .val (.ref b1), .val (.int (2 : Int32)), .val (.int u1)]) rfl d1_50 rfl ?_
  refine o_goto H21 d1_53 (pt := 16) (by decide) (by decide) ?_
  refine o_iloadN H21 rfl d1_16 rfl ?_
  refine o_aloadN H21 rfl rfl d1_17 rfl ?_
  refine o_arraylength H21 (2 : Int32) f23 rfl d1_18 rfl ?_
  refine o_icmp_t H21 d1_19 (by decide) (pt := 56) (by decide) (by decide) ?_
  refine o_aloadN H21 rfl rfl d1_56 rfl ?_
  exact o_areturn H21 rfl rfl rfl rfl d1_57 (by decide) (by decide) ⟨_, rfl, k22, y1, f24⟩
set_option maxRecDepth 65536 in
set_option maxHeartbeats 40000000 in
theorem rm1_3 (l : Launch) (Z : State) (a0 : Array Value) (hw : ∀ d ∈ tables_1, d.before a0 Z = true) (p1 : Int32) (a1 : Addr) (u0 : Int32) (u1 : Int32) (u2 : Int32) (h0 : Heap) (n0 : Nat) (Z0 : n0 ≤ h0.size) (A_a1 : oA .char Z h0 a1 [(.int u0), (.int u1), (.int u2)]) :
    oC l Z n0 (⟨"com/example/encase/encase/codec/Base32Format", "uncompressed", "(I[C)[B"⟩ : MethodName) prog_17_method_9_code 5 (some (.array .byte)) ({ frames := 0, cells := 1, slots := 7, locals := 0 } : Room) 1 7 #[(.int p1), (.ref a1)] h0 (fun v h => ∃ r, v = some (.ref r) ∧ Keep h0 h [] ∧ h0.size ≤ r ∧ oA .byte Z h r [(.int (nar .byte (p1.toInt8.toInt32))), (.int (nar .byte ((XT.ushr u0 (8 : Int32)).toInt8.toInt32))), (.int (nar .byte (u0.toInt8.toInt32))), (.int (nar .byte ((XT.ushr u1 (8 : Int32)).toInt8.toInt32))), (.int (nar .byte (u1.toInt8.toInt32))), (.int (nar .byte ((XT.ushr u2 (8 : Int32)).toInt8.toInt32))), (.int (nar .byte (u2.toInt8.toInt32)))]) := by
  refine oC.of (L := #[.val (.int p1), .val (.ref a1), .unset, .unset, .unset]) pn1 Z0 (fun m => by first | (simp [entryFrame, mkF, argsToLocals, Value.category]; done) | rfl) ?_
  intro p e s m below meth c T H
  refine o_iconst H (1 : Int32) rfl d1_0 rfl ?_
  refine o_iconst H (2 : Int32) rfl d1_1 rfl ?_
  refine o_aloadN H rfl rfl d1_2 rfl ?_
  refine o_arraylength H (3 : Int32) A_a1 rfl d1_3 rfl ?_
  refine o_imul H d1_4 rfl ?_
  refine o_fold (6 : Int32) (by decide) ?_
  refine o_iadd H d1_5 rfl ?_
  refine o_fold (7 : Int32) (by decide) ?_
  refine o_newarr (aty := .byte) H 7 7 (w5 hw) (by decide) (by decide) (by decide) d1_6 rfl (by decide) (by decide) ?_
  intro T1 h1 b1 g1 H1 E1 A1
  have ne1_a1 : a1 ≠ b1 := by rw [g1]; exact Nat.ne_of_lt (A_a1).lt
  have z1 : n0 ≤ b1 := by rw [g1]; exact H.le
  have y1 : h0.size ≤ b1 := by rw [g1]; exact (Keep.refl h0 []).1
  have k2 := (Keep.refl h0 []).ext E1
  have f3 := A_a1.ext E1
  have f4 : oA .byte Z h1 b1 [(.int 0), (.int 0), (.int 0), (.int 0), (.int 0), (.int 0), (.int 0)] := A1
  refine o_astoreN H1 (L' := #[.val (.int p1), .val (.ref a1), .val (.ref b1), .unset, .unset]) rfl rfl d1_8 rfl ?_
  refine o_aloadN H1 rfl rfl d1_9 rfl ?_
  refine o_iconst H1 (0 : Int32) rfl d1_10 rfl ?_
  refine o_iloadN H1 rfl d1_11 rfl ?_
  refine o_i2b H1 d1_12 rfl ?_
  refine o_bastore H1 0 f4 (by decide) (Nat.le_of_ble_eq_true rfl) z1 d1_13 rfl ?_
  intro T5 h5 H5 W5 A5
  have k6 := k2.wr W5 (Or.inr y1)
  have f7 := f3.other W5 ne1_a1
  have f8 : oA .byte Z h5 b1 [(.int (nar .byte (p1.toInt8.toInt32))), (.int 0), (.int 0), (.int 0), (.int 0), (.int 0), (.int 0)] := A5
  refine o_iconst H5 (0 : Int32) rfl d1_14 rfl ?_
  refine o_istoreN H5 (L' := #[.val (.int p1), .val (.ref a1), .val (.ref b1), .val (.int (0 : Int32)), .unset]) rfl d1_15 rfl ?_
  refine o_iloadN H5 rfl d1_16 rfl ?_
  refine o_aloadN H5 rfl rfl d1_17 rfl ?_
  refine o_arraylength H5 (3 : Int32) f7 rfl d1_18 rfl ?_
  refine o_icmp_f H5 d1_19 (by decide) rfl ?_
  refine o_aloadN H5 rfl rfl d1_22 rfl ?_
  refine o_iloadN H5 rfl d1_23 rfl ?_
  refine o_caload H5 0 (.int u0) f7 (by decide) rfl d1_24 rfl ?_
  refine o_istore H5 (L' := #[.val (.int p1), .val (.ref a1), .val (.ref b1), .val (.int (0 : Int32)), .val (.int u0)]) rfl d1_25 rfl ?_
  refine o_aloadN H5 rfl rfl d1_27 rfl ?_
  refine o_iconst H5 (1 : Int32) rfl d1_28 rfl ?_
  refine o_iconst H5 (2 : Int32) rfl d1_29 rfl ?_
  refine o_iloadN H5 rfl d1_30 rfl ?_
  refine o_imul H5 d1_31 rfl ?_
  refine o_fold (0 : Int32) (by decide) ?_
  refine o_iadd H5 d1_32 rfl ?_
  refine o_fold (1 : Int32) (by decide) ?_
  refine o_iload H5 rfl d1_33 rfl ?_
  refine o_bipush H5 (8 : Int32) rfl d1_35 rfl ?_
  refine o_iushr H5 d1_37 rfl ?_
  refine o_i2b H5 d1_38 rfl ?_
  refine o_bastore H5 1 f8 (by decide) (Nat.le_of_ble_eq_true rfl) z1 d1_39 rfl ?_
  intro T9 h9 H9 W9 A9
  have k10 := k6.wr W9 (Or.inr y1)
  have f11 := f7.other W9 ne1_a1
  have f12 : oA .byte Z h9 b1 [(.int (nar .byte (p1.toInt8.toInt32))), (.int (nar .byte ((XT.ushr u0 (8 : Int32)).toInt8.toInt32))), (.int 0), (.int 0), (.int 0), (.int 0), (.int 0)] := A9
  refine o_aloadN H9 rfl rfl d1_40 rfl ?_
  refine o_iconst H9 (2 : Int32) rfl d1_41 rfl ?_
  refine o_iconst H9 (2 : Int32) rfl d1_42 rfl ?_
  refine o_iloadN H9 rfl d1_43 rfl ?_
  refine o_imul H9 d1_44 rfl ?_
  refine o_fold (0 : Int32) (by decide) ?_
  refine o_iadd H9 d1_45 rfl ?_
  refine o_fold (2 : Int32) (by decide) ?_
  refine o_iload H9 rfl d1_46 rfl ?_
  refine o_i2b H9 d1_48 rfl ?_
  refine o_bastore H9 2 f12 (by decide) (Nat.le_of_ble_eq_true rfl) z1 d1_49 rfl ?_
  intro T13 h13 H13 W13 A13
  have k14 := k10.wr W13 (Or.inr y1)
  have f15 := f11.other W13 ne1_a1
  have f16 : oA .byte Z h13 b1 [(.int (nar .byte (p1.toInt8.toInt32))), (.int (nar .byte ((XT.ushr u0 (8 : Int32)).toInt8.toInt32))), (.int (nar .byte (u0.toInt8.toInt32))), (.int 0), (.int 0), (.int 0), (.int 0)] := A13
  refine o_iinc H13 (1 : Int32) (1 : Int32) rfl (by decide) rfl (L' := #[.val (.int p1), .val (.ref a1), .val (.ref b1), .val (.int (1 : Int32)), .val (.int u0)]) rfl d1_50 rfl ?_
  refine o_goto H13 d1_53 (pt := 16) (by decide) (by decide) ?_
  refine o_iloadN H13 rfl d1_16 rfl ?_
  refine o_aloadN H13 rfl rfl d1_17 rfl ?_
  refine o_arraylength H13 (3 : Int32) f15 rfl d1_18 rfl ?_
  refine o_icmp_f H13 d1_19 (by decide) rfl ?_
  refine o_aloadN H13 rfl rfl d1_22 rfl ?_
  refine o_iloadN H13 rfl d1_23 rfl ?_
  refine o_caload H13 1 (.int u1) f15 (by decide) rfl d1_24 rfl ?_
  refine o_istore H13 (L' := #[.val (.int p1), .val (.ref a1), .val (.ref b1), .val (.int (1 : Int32)), .val (.int u1)]) rfl d1_25 rfl ?_
  refine o_aloadN H13 rfl rfl d1_27 rfl ?_
  refine o_iconst H13 (1 : Int32) rfl d1_28 rfl ?_
  refine o_iconst H13 (2 : Int32) rfl d1_29 rfl ?_
  refine o_iloadN H13 rfl d1_30 rfl ?_
  refine o_imul H13 d1_31 rfl ?_
  refine o_fold (2 : Int32) (by decide) ?_
  refine o_iadd H13 d1_32 rfl ?_
  refine o_fold (3 : Int32) (by decide) ?_
  refine o_iload H13 rfl d1_33 rfl ?_
  refine o_bipush H13 (8 : Int32) rfl d1_35 rfl ?_
  refine o_iushr H13 d1_37 rfl ?_
  refine o_i2b H13 d1_38 rfl ?_
  refine o_bastore H13 3 f16 (by decide) (Nat.le_of_ble_eq_true rfl) z1 d1_39 rfl ?_
  intro T17 h17 H17 W17 A17
  have k18 := k14.wr W17 (Or.inr y1)
  have f19 := f15.other W17 ne1_a1
  have f20 : oA .byte Z h17 b1 [(.int (nar .byte (p1.toInt8.toInt32))), (.int (nar .byte ((XT.ushr u0 (8 : Int32)).toInt8.toInt32))), (.int (nar .byte (u0.toInt8.toInt32))), (.int (nar .byte ((XT.ushr u1 (8 : Int32)).toInt8.toInt32))), (.int 0), (.int 0), (.int 0)] := A17
  refine o_aloadN H17 rfl rfl d1_40 rfl ?_
  refine o_iconst H17 (2 : Int32) rfl d1_41 rfl ?_
  refine o_iconst H17 (2 : Int32) rfl d1_42 rfl ?_
  refine o_iloadN H17 rfl d1_43 rfl ?_
  refine o_imul H17 d1_44 rfl ?_
  refine o_fold (2 : Int32) (by decide) ?_
  refine o_iadd H17 d1_45 rfl ?_
  refine o_fold (4 : Int32) (by decide) ?_
  refine o_iload H17 rfl d1_46 rfl ?_
  refine o_i2b H17 d1_48 rfl ?_
  refine o_bastore H17 4 f20 (by decide) (Nat.le_of_ble_eq_true rfl) z1 d1_49 rfl ?_
  intro T21 h21 H21 W21 A21
  have k22 := k18.wr W21 (Or.inr y1)
  have f23 := f19.other W21 ne1_a1
  have f24 : oA .byte Z h21 b1 [(.int (nar .byte (p1.toInt8.toInt32))), (.int (nar .byte ((XT.ushr u0 (8 : Int32)).toInt8.toInt32))), (.int (nar .byte (u0.toInt8.toInt32))), (.int (nar .byte ((XT.ushr u1 (8 : Int32)).toInt8.toInt32))), (.int (nar .byte (u1.toInt8.toInt32))), (.int 0), (.int 0)] := A21
  refine o_iinc H21 (1 : Int32) (2 : Int32) rfl (by decide) rfl (L' := #[.val (.int p1), .val (.ref a1), .val (.ref b1), .val (.int (2 : Int32)), .val (.int u1)]) rfl d1_50 rfl ?_
  refine o_goto H21 d1_53 (pt := 16) (by decide) (by decide) ?_
  refine o_iloadN H21 rfl d1_16 rfl ?_
  refine o_aloadN H21 rfl rfl d1_17 rfl ?_
  refine o_arraylength H21 (3 : Int32) f23 rfl d1_18 rfl ?_
  refine o_icmp_f H21 d1_19 (by decide) rfl ?_
  refine o_aloadN H21 rfl rfl d1_22 rfl ?_
  refine o_iloadN H21 rfl d1_23 rfl ?_
  refine o_caload H21 2 (.int u2) f23 (by decide) rfl d1_24 rfl ?_
  refine o_istore H21 (L' := #[.val (.int p1), .val (.ref a1), .val (.ref b1), .val (.int (2 : Int32)), .val (.int u2)]) rfl d1_25 rfl ?_
  refine o_aloadN H21 rfl rfl d1_27 rfl ?_
  refine o_iconst H21 (1 : Int32) rfl d1_28 rfl ?_
  refine o_iconst H21 (2 : Int32) rfl d1_29 rfl ?_
  refine o_iloadN H21 rfl d1_30 rfl ?_
  refine o_imul H21 d1_31 rfl ?_
  refine o_fold (4 : Int32) (by decide) ?_
  refine o_iadd H21 d1_32 rfl ?_
  refine o_fold (5 : Int32) (by decide) ?_
  refine o_iload H21 rfl d1_33 rfl ?_
  refine o_bipush H21 (8 : Int32) rfl d1_35 rfl ?_
  refine o_iushr H21 d1_37 rfl ?_
  refine o_i2b H21 d1_38 rfl ?_
  refine o_bastore H21 5 f24 (by decide) (Nat.le_of_ble_eq_true rfl) z1 d1_39 rfl ?_
  intro T25 h25 H25 W25 A25
  have k26 := k22.wr W25 (Or.inr y1)
  have f27 := f23.other W25 ne1_a1
  have f28 : oA .byte Z h25 b1 [(.int (nar .byte (p1.toInt8.toInt32))), (.int (nar .byte ((XT.ushr u0 (8 : Int32)).toInt8.toInt32))), (.int (nar .byte (u0.toInt8.toInt32))), (.int (nar .byte ((XT.ushr u1 (8 : Int32)).toInt8.toInt32))), (.int (nar .byte (u1.toInt8.toInt32))), (.int (nar .byte ((XT.ushr u2 (8 : Int32)).toInt8.toInt32))), (.int 0)] := A25
  refine o_aloadN H25 rfl rfl d1_40 rfl ?_
  refine o_iconst H25 (2 : Int32) rfl d1_41 rfl ?_
  refine o_iconst H25 (2 : Int32) rfl d1_42 rfl ?_
  refine o_iloadN H25 rfl d1_43 rfl ?_
  refine o_imul H25 d1_44 rfl ?_
  refine o_fold (4 : Int32) (by decide) ?_
  refine o_iadd H25 d1_45 rfl ?_
  refine o_fold (6 : Int32) (by decide) ?_
  refine o_iload H25 rfl d1_46 rfl ?_
  refine o_i2b H25 d1_48 rfl ?_
  refine o_bastore H25 6 f28 (by decide) (Nat.le_of_ble_eq_true rfl) z1 d1_49 rfl ?_
  intro T29 h29 H29 W29 A29
  have k30 := k26.wr W29 (Or.inr y1)
  have f31 := f27.other W29 ne1_a1
  have f32 : oA .byte Z h29 b1 [(.int (nar .byte (p1.toInt8.toInt32))), (.int (nar .byte ((XT.ushr u0 (8 : Int32)).toInt8.toInt32))), (.int (nar .byte (u0.toInt8.toInt32))), (.int (nar .byte ((XT.ushr u1 (8 : Int32)).toInt8.toInt32))), (.int (nar .byte (u1.toInt8.toInt32))), (.int (nar .byte ((XT.ushr u2 (8 : Int32)).toInt8.toInt32))), (.int (nar .byte (u2.toInt8.toInt32)))] := A29
  refine o_iinc H29 (1 : Int32) (3 : Int32) rfl (by decide) rfl (L' := #[.val (.int p1), .val (.ref a1), .val (.ref b1), .val (.int (3 : Int32)), .val (.int u2)]) rfl d1_50 rfl ?_
  refine o_goto H29 d1_53 (pt := 16) (by decide) (by decide) ?_
  refine o_iloadN H29 rfl d1_16 rfl ?_
  refine o_aloadN H29 rfl rfl d1_17 rfl ?_
  refine o_arraylength H29 (3 : Int32) f31 rfl d1_18 rfl ?_
  refine o_icmp_t H29 d1_19 (by decide) (pt := 56) (by decide) (by decide) ?_
  refine o_aloadN H29 rfl rfl d1_56 rfl ?_
  exact o_areturn H29 rfl rfl rfl rfl d1_57 (by decide) (by decide) ⟨_, rfl, k30, y1, f32⟩
theorem d2_0 : decode method_3_code 0 = .ok (.iload_n 2, 1) := by decide +kernel
theorem d2_1 : decode method_3_code 1 = .ok (.sipush 256, 3) := by decide +kernel
theorem d2_4 : decode method_3_code 4 = .ok (.idiv, 1) := by decide +kernel
theorem d2_5 : decode method_3_code 5 = .ok (.istore_n 3, 1) := by decide +kernel
theorem d2_6 : decode method_3_code 6 = .ok (.iload_n 2, 1) := by decide +kernel
theorem d2_7 : decode method_3_code 7 = .ok (.sipush 256, 3) := by decide +kernel
theorem d2_10 : decode method_3_code 10 = .ok (.irem, 1) := by decide +kernel
theorem d2_11 : decode method_3_code 11 = .ok (.istore 4, 2) := by decide +kernel
theorem d2_13 : decode method_3_code 13 = .ok (.aload_n 0, 1) := by decide +kernel
theorem d2_14 : decode method_3_code 14 = .ok (.iconst 1, 1) := by decide +kernel
theorem d2_15 : decode method_3_code 15 = .ok (.iconst 2, 1) := by decide +kernel
theorem d2_16 : decode method_3_code 16 = .ok (.iload_n 1, 1) := by decide +kernel
theorem d2_17 : decode method_3_code 17 = .ok (.imul, 1) := by decide +kernel
theorem d2_18 : decode method_3_code 18 = .ok (.iadd, 1) := by decide +kernel
theorem d2_19 : decode method_3_code 19 = .ok (.baload, 1) := by decide +kernel
theorem d2_20 : decode method_3_code 20 = .ok (.sipush 255, 3) := by decide +kernel
theorem d2_23 : decode method_3_code 23 = .ok (.iand, 1) := by decide +kernel
theorem d2_24 : decode method_3_code 24 = .ok (.iload_n 3, 1) := by decide +kernel
theorem d2_25 : decode method_3_code 25 = .ok (.if_icmp .ne 23, 3) := by decide +kernel
theorem d2_28 : decode method_3_code 28 = .ok (.aload_n 0, 1) := by decide +kernel
theorem d2_29 : decode method_3_code 29 = .ok (.iconst 2, 1) := by decide +kernel
theorem d2_30 : decode method_3_code 30 = .ok (.iconst 2, 1) := by decide +kernel
theorem d2_31 : decode method_3_code 31 = .ok (.iload_n 1, 1) := by decide +kernel
theorem d2_32 : decode method_3_code 32 = .ok (.imul, 1) := by decide +kernel
theorem d2_33 : decode method_3_code 33 = .ok (.iadd, 1) := by decide +kernel
theorem d2_34 : decode method_3_code 34 = .ok (.baload, 1) := by decide +kernel
theorem d2_35 : decode method_3_code 35 = .ok (.sipush 255, 3) := by decide +kernel
theorem d2_38 : decode method_3_code 38 = .ok (.iand, 1) := by decide +kernel
theorem d2_39 : decode method_3_code 39 = .ok (.iload 4, 2) := by decide +kernel
theorem d2_41 : decode method_3_code 41 = .ok (.if_icmp .ne 7, 3) := by decide +kernel
theorem d2_44 : decode method_3_code 44 = .ok (.iconst 1, 1) := by decide +kernel
theorem d2_45 : decode method_3_code 45 = .ok (.goto 4, 3) := by decide +kernel
theorem d2_48 : decode method_3_code 48 = .ok (.iconst 0, 1) := by decide +kernel
theorem d2_49 : decode method_3_code 49 = .ok (.ireturn, 1) := by decide +kernel
theorem pn2 : plainFor (⟨"com/example/encase/encase/codec/Base32FormatUncompressedPinLaw", "pair", "([BIC)Z"⟩ : MethodName) = true := plainFor_of_name (by first | (simp [plainName, overriddenIn]; done) | decide +kernel)
theorem pd2 : parseMethodDescriptor "([BIC)Z" = some ⟨[(.array .byte), .int, .char], some .boolean⟩ := by decide +kernel
set_option maxRecDepth 65536 in
set_option maxHeartbeats 40000000 in
theorem rm2 (l : Launch) (Z : State) (a0 : Array Value) (hw : ∀ d ∈ tables_1, d.before a0 Z = true) (a1 : Addr) (p1 : Int32) (p2 : Int32) (vs : List Value) (i1 i2 : Nat) (b1 b2 : Int32) (h0 : Heap) (n0 : Nat) (Z0 : n0 ≤ h0.size) (A_a1 : oA .byte Z h0 a1 vs) (q1 : ((1 : Int32) + ((2 : Int32) * p1)).toInt = (i1 : Int)) (r1 : vs[i1]? = some (.int b1)) (q2 : ((2 : Int32) + ((2 : Int32) * p1)).toInt = (i2 : Int)) (r2 : vs[i2]? = some (.int b2)) :
    oC l Z n0 (⟨"com/example/encase/encase/codec/Base32FormatUncompressedPinLaw", "pair", "([BIC)Z"⟩ : MethodName) method_3_code 5 (some .boolean) ({ frames := 0, cells := 0, slots := 0, locals := 0 } : Room) 0 0 #[(.ref a1), (.int p1), (.int p2)] h0 (fun v h => v = some (.int (own_pair b1 b2 p2)) ∧ h0 = h) := by
  refine oC.of (L := #[.val (.ref a1), .val (.int p1), .val (.int p2), .unset, .unset]) pn2 Z0 (fun m => by first | (simp [entryFrame, mkF, argsToLocals, Value.category]; done) | rfl) ?_
  intro p e s m below meth c T H
  refine o_iloadN H rfl d2_0 rfl ?_
  refine o_sipush H (256 : Int32) rfl d2_1 rfl ?_
  refine o_idiv H (by decide) d2_4 rfl ?_
  refine o_istoreN H (L' := #[.val (.ref a1), .val (.int p1), .val (.int p2), .val (.int (p2 / (256 : Int32))), .unset]) rfl d2_5 rfl ?_
  refine o_iloadN H rfl d2_6 rfl ?_
  refine o_sipush H (256 : Int32) rfl d2_7 rfl ?_
  refine o_irem H (by decide) d2_10 rfl ?_
  refine o_istore H (L' := #[.val (.ref a1), .val (.int p1), .val (.int p2), .val (.int (p2 / (256 : Int32))), .val (.int (p2 % (256 : Int32)))]) rfl d2_11 rfl ?_
  refine o_aloadN H rfl rfl d2_13 rfl ?_
  refine o_iconst H (1 : Int32) rfl d2_14 rfl ?_
  refine o_iconst H (2 : Int32) rfl d2_15 rfl ?_
  refine o_iloadN H rfl d2_16 rfl ?_
  refine o_imul H d2_17 rfl ?_
  refine o_iadd H d2_18 rfl ?_
  refine o_baload H i1 (.int b1) A_a1 q1 r1 d2_19 rfl ?_
  refine o_sipush H (255 : Int32) rfl d2_20 rfl ?_
  refine o_iand H d2_23 rfl ?_
  refine o_iloadN H rfl d2_24 rfl ?_
  refine o_icmp_ne H d2_25 (pt := 48) (by decide) (by decide) rfl ?_ ?_
  · intro c25_1
    refine o_iconst H (0 : Int32) rfl d2_48 rfl ?_
    exact o_nreturn H .boolean rfl (by simp) d2_49 (by decide) (by decide) ⟨by simp [own_pair, nar, c25_1], rfl⟩
  · intro c25_1
    refine o_aloadN H rfl rfl d2_28 rfl ?_
    refine o_iconst H (2 : Int32) rfl d2_29 rfl ?_
    refine o_iconst H (2 : Int32) rfl d2_30 rfl ?_
    refine o_iloadN H rfl d2_31 rfl ?_
    refine o_imul H d2_32 rfl ?_
    refine o_iadd H d2_33 rfl ?_
    refine o_baload H i2 (.int b2) A_a1 q2 r2 d2_34 rfl ?_
    refine o_sipush H (255 : Int32) rfl d2_35 rfl ?_
    refine o_iand H d2_38 rfl ?_
    refine o_iload H rfl d2_39 rfl ?_
    refine o_icmp_ne H d2_41 (pt := 48) (by decide) (by decide) rfl ?_ ?_
    · intro c41_2
      refine o_iconst H (0 : Int32) rfl d2_48 rfl ?_
      exact o_nreturn H .boolean rfl (by simp) d2_49 (by decide) (by decide) ⟨by simp [own_pair, nar, c25_1, c41_2], rfl⟩
    · intro c41_2
      refine o_iconst H (1 : Int32) rfl d2_44 rfl ?_
      refine o_goto H d2_45 (pt := 49) (by decide) (by decide) ?_
      exact o_nreturn H .boolean rfl (by simp) d2_49 (by decide) (by decide) ⟨by simp [own_pair, nar, c25_1, c41_2], rfl⟩
theorem pn0 : plainFor x = true := plainFor_of_name (by first | (simp [plainName, overriddenIn]; done) | decide +kernel)
set_option maxRecDepth 65536 in
set_option maxHeartbeats 40000000 in
theorem rm0 (l : Launch) (Z : State) (a0 : Array Value) (hw : ∀ d ∈ tables_1, d.before a0 Z = true) (p1 : Int32) (p2 : Int32) (p3 : Int32) (p4 : Int32) (p5 : Int32)  (h0 : Heap) (n0 : Nat) (Z0 : n0 ≤ h0.size)  :
    oC l Z n0 x code maxLocals ret room_1 16 128 #[(.int p1), (.int p2), (.int p3), (.int p4), (.int p5)] h0 (fun v h => v = some (.int 1)) := by
  refine oC.of (L := #[.val (.int p1), .val (.int p2), .val (.int p3), .val (.int p4), .val (.int p5), .unset, .unset, .unset, .unset, .unset, .unset, .unset]) pn0 Z0 (fun m => by first | (simp [entryFrame, mkF, argsToLocals, Value.category, maxLocals]; done) | rfl) ?_
  intro p e s m below meth c T H
  refine o_iloadN H rfl at_0 rfl ?_
  refine o_i2c H at_1 rfl ?_
  obtain ⟨U1, e_U1⟩ : ∃ z : Int32, z = (p3.toUInt32.toUInt16.toUInt32.toInt32) := ⟨_, rfl⟩
  rw [← e_U1]
  refine o_istore H (L' := #[.val (.int p1), .val (.int p2), .val (.int p3), .val (.int p4), .val (.int p5), .val (.int U1), .unset, .unset, .unset, .unset, .unset, .unset]) rfl at_2 rfl ?_
  refine o_iloadN H rfl at_4 rfl ?_
  refine o_i2c H at_5 rfl ?_
  obtain ⟨U2, e_U2⟩ : ∃ z : Int32, z = (p4.toUInt32.toUInt16.toUInt32.toInt32) := ⟨_, rfl⟩
  rw [← e_U2]
  refine o_istore H (L' := #[.val (.int p1), .val (.int p2), .val (.int p3), .val (.int p4), .val (.int p5), .val (.int U1), .val (.int U2), .unset, .unset, .unset, .unset, .unset]) rfl at_6 rfl ?_
  refine o_iload H rfl at_8 rfl ?_
  refine o_i2c H at_10 rfl ?_
  obtain ⟨U3, e_U3⟩ : ∃ z : Int32, z = (p5.toUInt32.toUInt16.toUInt32.toInt32) := ⟨_, rfl⟩
  rw [← e_U3]
  refine o_istore H (L' := #[.val (.int p1), .val (.int p2), .val (.int p3), .val (.int p4), .val (.int p5), .val (.int U1), .val (.int U2), .val (.int U3), .unset, .unset, .unset, .unset]) rfl at_11 rfl ?_
  refine o_iloadN H rfl at_13 rfl ?_
  refine o_iconst H (3 : Int32) rfl at_14 rfl ?_
  refine o_iand H at_15 rfl ?_
  obtain ⟨n, e_n⟩ : ∃ z : Int32, z = (p2 &&& (3 : Int32)) := ⟨_, rfl⟩
  rw [← e_n]
  refine o_istore H (L' := #[.val (.int p1), .val (.int p2), .val (.int p3), .val (.int p4), .val (.int p5), .val (.int U1), .val (.int U2), .val (.int U3), .val (.int n), .unset, .unset, .unset]) rfl at_16 rfl ?_
  refine o_iload H rfl at_18 rfl ?_
  refine o_if_ne H at_20 (pt := 31) (by decide) (by decide) rfl ?_ ?_
  · intro c20_1
    skip
    refine o_iload H rfl at_31 rfl ?_
    refine o_iconst H (1 : Int32) rfl at_33 rfl ?_
    refine o_icmp_ne H at_34 (pt := 50) (by decide) (by decide) rfl ?_ ?_
    · intro c34_2
      skip
      refine o_iload H rfl at_50 rfl ?_
      refine o_iconst H (2 : Int32) rfl at_52 rfl ?_
      refine o_icmp_ne H at_53 (pt := 74) (by decide) (by decide) rfl ?_ ?_
      · intro c53_3
        obtain rfl : n = 3 := by have h1 := c_and p2 3 (by decide); rw [← e_n] at h1; rw [n_eq] at *; simp only [Int32.reduceToInt] at *; omega
        refine o_iconst H (3 : Int32) rfl at_74 rfl ?_
        refine o_newarr (aty := .char) H 3 3 (w0 hw) (by decide) (by decide) (by decide) at_75 rfl (by decide) (by decide) ?_
        intro T4 h4 b4 g4 H4 E4 A4
        have z4 : n0 ≤ b4 := by rw [g4]; exact H.le
        have f5 : oA .char Z h4 b4 [(.int 0), (.int 0), (.int 0)] := A4
        refine o_dup H4 rfl at_77 rfl ?_
        refine o_iconst H4 (0 : Int32) rfl at_78 rfl ?_
        refine o_iload H4 rfl at_79 rfl ?_
        refine o_castore H4 0 f5 (by decide) (Nat.le_of_ble_eq_true rfl) z4 at_81 rfl ?_
        intro T6 h6 H6 W6 A6
        have f7 : oA .char Z h6 b4 [(.int (nar .char U1)), (.int 0), (.int 0)] := A6
        refine o_dup H6 rfl at_82 rfl ?_
        refine o_iconst H6 (1 : Int32) rfl at_83 rfl ?_
        refine o_iload H6 rfl at_84 rfl ?_
        refine o_castore H6 1 f7 (by decide) (Nat.le_of_ble_eq_true rfl) z4 at_86 rfl ?_
        intro T8 h8 H8 W8 A8
        have f9 : oA .char Z h8 b4 [(.int (nar .char U1)), (.int (nar .char U2)), (.int 0)] := A8
        refine o_dup H8 rfl at_87 rfl ?_
        refine o_iconst H8 (2 : Int32) rfl at_88 rfl ?_
        refine o_iload H8 rfl at_89 rfl ?_
        refine o_castore H8 2 f9 (by decide) (Nat.le_of_ble_eq_true rfl) z4 at_91 rfl ?_
        intro T10 h10 H10 W10 A10
        have f11 : oA .char Z h10 b4 [(.int (nar .char U1)), (.int (nar .char U2)), (.int (nar .char U3))] := A10
        refine o_astore H10 (L' := #[.val (.int p1), .val (.int p2), .val (.int p3), .val (.int p4), .val (.int p5), .val (.int U1), .val (.int U2), .val (.int U3), .val (.int (3 : Int32)), .val (.ref b4), .unset, .unset]) rfl rfl at_92 rfl ?_
        refine o_iloadN H10 rfl at_94 rfl ?_
        refine o_aload H10 rfl rfl at_95 rfl ?_
        refine o_static H10 [(.int p1), (.ref b4)] [] (rm1_3 l Z a0 hw p1 b4 (nar .char U1) (nar .char U2) (nar .char U3) h10 n0 H10.le f11) (w1 hw) (w2 hw) (w3 hw) (w4 hw) (by decide) (lenOf pd1 rfl) rfl rfl (by decide) (Nat.le_of_ble_eq_true rfl) (by decide) (by decide) at_97 rfl ?_
        intro T12 v12 h12 H12 q12
        obtain ⟨r12, rfl, K12, B12, A12⟩ := q12
        have ne12_b4 : b4 ≠ r12 := Nat.ne_of_lt (Nat.lt_of_lt_of_le (f11).lt B12)
        have z12 : n0 ≤ r12 := Nat.le_trans H10.le B12
        have f13 := f11.keep K12 nin0
        show oG p e below s n0 _ _ _ (T12.setTop (mkF m 100 #[.val (.int p1), .val (.int p2), .val (.int p3), .val (.int p4), .val (.int p5), .val (.int U1), .val (.int U2), .val (.int U3), .val (.int (3 : Int32)), .val (.ref b4), .unset, .unset] [(.ref r12)]))
        refine o_astore H12 (L' := #[.val (.int p1), .val (.int p2), .val (.int p3), .val (.int p4), .val (.int p5), .val (.int U1), .val (.int U2), .val (.int U3), .val (.int (3 : Int32)), .val (.ref b4), .val (.ref r12), .unset]) rfl rfl at_100 rfl ?_
        refine o_aload H12 rfl rfl at_102 rfl ?_
        refine o_arraylength H12 (7 : Int32) A12 rfl at_104 rfl ?_
        refine o_iconst H12 (1 : Int32) rfl at_105 rfl ?_
        refine o_iconst H12 (2 : Int32) rfl at_106 rfl ?_
        refine o_iload H12 rfl at_107 rfl ?_
        refine o_imul H12 at_109 rfl ?_
        refine o_fold (6 : Int32) (by decide) ?_
        refine o_iadd H12 at_110 rfl ?_
        refine o_fold (7 : Int32) (by decide) ?_
        refine o_icmp_t H12 at_111 (by decide) (pt := 116) (by decide) (by decide) ?_
        refine o_iloadN H12 rfl at_116 rfl ?_
        refine o_sipush H12 (256 : Int32) rfl at_117 rfl ?_
        refine o_irem H12 (by decide) at_120 rfl ?_
        refine o_sipush H12 (256 : Int32) rfl at_121 rfl ?_
        refine o_iadd H12 at_124 rfl ?_
        refine o_sipush H12 (256 : Int32) rfl at_125 rfl ?_
        refine o_irem H12 (by decide) at_128 rfl ?_
        refine o_istore H12 (L' := #[.val (.int p1), .val (.int p2), .val (.int p3), .val (.int p4), .val (.int p5), .val (.int U1), .val (.int U2), .val (.int U3), .val (.int (3 : Int32)), .val (.ref b4), .val (.ref r12), .val (.int (((p1 % (256 : Int32)) + (256 : Int32)) % (256 : Int32)))]) rfl at_129 rfl ?_
        refine o_aload H12 rfl rfl at_131 rfl ?_
        refine o_iconst H12 (0 : Int32) rfl at_133 rfl ?_
        refine o_baload H12 0 (.int (nar .byte (p1.toInt8.toInt32))) A12 (by decide) rfl at_134 rfl ?_
        refine o_sipush H12 (255 : Int32) rfl at_135 rfl ?_
        refine o_iand H12 at_138 rfl ?_
        refine o_iload H12 rfl at_139 rfl ?_
        refine o_icmp_t H12 at_141 (XT.ii_eq_t (own_low p1)) (pt := 146) (by decide) (by decide) ?_
        refine o_iload H12 rfl at_146 rfl ?_
        refine o_iconst H12 (1 : Int32) rfl at_148 rfl ?_
        refine o_icmp_f H12 at_149 (by decide) rfl ?_
        refine o_aload H12 rfl rfl at_152 rfl ?_
        refine o_iconst H12 (0 : Int32) rfl at_154 rfl ?_
        refine o_iload H12 rfl at_155 rfl ?_
        refine o_static H12 [(.ref r12), (.int (0 : Int32)), (.int U1)] [] ((rm2 l Z a0 hw r12 (0 : Int32) U1 [(.int (nar .byte (p1.toInt8.toInt32))), (.int (nar .byte ((XT.ushr (nar .char U1) (8 : Int32)).toInt8.toInt32))), (.int (nar .byte ((nar .char U1).toInt8.toInt32))), (.int (nar .byte ((XT.ushr (nar .char U2) (8 : Int32)).toInt8.toInt32))), (.int (nar .byte ((nar .char U2).toInt8.toInt32))), (.int (nar .byte ((XT.ushr (nar .char U3) (8 : Int32)).toInt8.toInt32))), (.int (nar .byte ((nar .char U3).toInt8.toInt32)))] 1 2 (nar .byte ((XT.ushr (nar .char U1) (8 : Int32)).toInt8.toInt32)) (nar .byte ((nar .char U1).toInt8.toInt32)) h12 n0 H12.le A12 (by decide) rfl (by decide) rfl).mono (fun v h q => (⟨by rw [q.1, own_ok _ _ e_U1], q.2⟩ : v = some (.int 1) ∧ h12 = h))) (w6 hw) (w7 hw) (w8 hw) (w9 hw) (by decide) (lenOf pd2 rfl) rfl rfl (by decide) (Nat.le_of_ble_eq_true rfl) (by decide) (by decide) at_157 rfl ?_
        intro T14 v14 h14 H14 q14
        obtain ⟨rfl, rfl⟩ := q14
        show oG p e below s n0 _ _ _ (T14.setTop (mkF m 160 #[.val (.int p1), .val (.int p2), .val (.int p3), .val (.int p4), .val (.int p5), .val (.int U1), .val (.int U2), .val (.int U3), .val (.int (3 : Int32)), .val (.ref b4), .val (.ref r12), .val (.int (((p1 % (256 : Int32)) + (256 : Int32)) % (256 : Int32)))] [(.int (1 : Int32))]))
        refine o_if_t H14 at_160 (by decide) (pt := 165) (by decide) (by decide) ?_
        refine o_iload H14 rfl at_165 rfl ?_
        refine o_iconst H14 (2 : Int32) rfl at_167 rfl ?_
        refine o_icmp_f H14 at_168 (by decide) rfl ?_
        refine o_aload H14 rfl rfl at_171 rfl ?_
        refine o_iconst H14 (1 : Int32) rfl at_173 rfl ?_
        refine o_iload H14 rfl at_174 rfl ?_
        refine o_static H14 [(.ref r12), (.int (1 : Int32)), (.int U2)] [] ((rm2 l Z a0 hw r12 (1 : Int32) U2 [(.int (nar .byte (p1.toInt8.toInt32))), (.int (nar .byte ((XT.ushr (nar .char U1) (8 : Int32)).toInt8.toInt32))), (.int (nar .byte ((nar .char U1).toInt8.toInt32))), (.int (nar .byte ((XT.ushr (nar .char U2) (8 : Int32)).toInt8.toInt32))), (.int (nar .byte ((nar .char U2).toInt8.toInt32))), (.int (nar .byte ((XT.ushr (nar .char U3) (8 : Int32)).toInt8.toInt32))), (.int (nar .byte ((nar .char U3).toInt8.toInt32)))] 3 4 (nar .byte ((XT.ushr (nar .char U2) (8 : Int32)).toInt8.toInt32)) (nar .byte ((nar .char U2).toInt8.toInt32)) h12 n0 H14.le A12 (by decide) rfl (by decide) rfl).mono (fun v h q => (⟨by rw [q.1, own_ok _ _ e_U2], q.2⟩ : v = some (.int 1) ∧ h12 = h))) (w6 hw) (w7 hw) (w8 hw) (w9 hw) (by decide) (lenOf pd2 rfl) rfl rfl (by decide) (Nat.le_of_ble_eq_true rfl) (by decide) (by decide) at_176 rfl ?_
        intro T15 v15 h15 H15 q15
        obtain ⟨rfl, rfl⟩ := q15
        show oG p e below s n0 _ _ _ (T15.setTop (mkF m 179 #[.val (.int p1), .val (.int p2), .val (.int p3), .val (.int p4), .val (.int p5), .val (.int U1), .val (.int U2), .val (.int U3), .val (.int (3 : Int32)), .val (.ref b4), .val (.ref r12), .val (.int (((p1 % (256 : Int32)) + (256 : Int32)) % (256 : Int32)))] [(.int (1 : Int32))]))
        refine o_if_t H15 at_179 (by decide) (pt := 184) (by decide) (by decide) ?_
        refine o_iload H15 rfl at_184 rfl ?_
        refine o_iconst H15 (3 : Int32) rfl at_186 rfl ?_
        refine o_icmp_f H15 at_187 (by decide) rfl ?_
        refine o_aload H15 rfl rfl at_190 rfl ?_
        refine o_iconst H15 (2 : Int32) rfl at_192 rfl ?_
        refine o_iload H15 rfl at_193 rfl ?_
        refine o_static H15 [(.ref r12), (.int (2 : Int32)), (.int U3)] [] ((rm2 l Z a0 hw r12 (2 : Int32) U3 [(.int (nar .byte (p1.toInt8.toInt32))), (.int (nar .byte ((XT.ushr (nar .char U1) (8 : Int32)).toInt8.toInt32))), (.int (nar .byte ((nar .char U1).toInt8.toInt32))), (.int (nar .byte ((XT.ushr (nar .char U2) (8 : Int32)).toInt8.toInt32))), (.int (nar .byte ((nar .char U2).toInt8.toInt32))), (.int (nar .byte ((XT.ushr (nar .char U3) (8 : Int32)).toInt8.toInt32))), (.int (nar .byte ((nar .char U3).toInt8.toInt32)))] 5 6 (nar .byte ((XT.ushr (nar .char U3) (8 : Int32)).toInt8.toInt32)) (nar .byte ((nar .char U3).toInt8.toInt32)) h12 n0 H15.le A12 (by decide) rfl (by decide) rfl).mono (fun v h q => (⟨by rw [q.1, own_ok _ _ e_U3], q.2⟩ : v = some (.int 1) ∧ h12 = h))) (w6 hw) (w7 hw) (w8 hw) (w9 hw) (by decide) (lenOf pd2 rfl) rfl rfl (by decide) (Nat.le_of_ble_eq_true rfl) (by decide) (by decide) at_195 rfl ?_
        intro T16 v16 h16 H16 q16
        obtain ⟨rfl, rfl⟩ := q16
        show oG p e below s n0 _ _ _ (T16.setTop (mkF m 198 #[.val (.int p1), .val (.int p2), .val (.int p3), .val (.int p4), .val (.int p5), .val (.int U1), .val (.int U2), .val (.int U3), .val (.int (3 : Int32)), .val (.ref b4), .val (.ref r12), .val (.int (((p1 % (256 : Int32)) + (256 : Int32)) % (256 : Int32)))] [(.int (1 : Int32))]))
        refine o_if_t H16 at_198 (by decide) (pt := 203) (by decide) (by decide) ?_
        refine o_iconst H16 (1 : Int32) rfl at_203 rfl ?_
        exact o_nreturn H16 .boolean rfl (by simp) at_204 (by decide) (by decide) rfl
      · intro c53_3
        subst c53_3
        refine o_iconst H (2 : Int32) rfl at_56 rfl ?_
        refine o_newarr (aty := .char) H 2 2 (w0 hw) (by decide) (by decide) (by decide) at_57 rfl (by decide) (by decide) ?_
        intro T17 h17 b17 g17 H17 E17 A17
        have z17 : n0 ≤ b17 := by rw [g17]; exact H.le
        have f18 : oA .char Z h17 b17 [(.int 0), (.int 0)] := A17
        refine o_dup H17 rfl at_59 rfl ?_
        refine o_iconst H17 (0 : Int32) rfl at_60 rfl ?_
        refine o_iload H17 rfl at_61 rfl ?_
        refine o_castore H17 0 f18 (by decide) (Nat.le_of_ble_eq_true rfl) z17 at_63 rfl ?_
        intro T19 h19 H19 W19 A19
        have f20 : oA .char Z h19 b17 [(.int (nar .char U1)), (.int 0)] := A19
        refine o_dup H19 rfl at_64 rfl ?_
        refine o_iconst H19 (1 : Int32) rfl at_65 rfl ?_
        refine o_iload H19 rfl at_66 rfl ?_
        refine o_castore H19 1 f20 (by decide) (Nat.le_of_ble_eq_true rfl) z17 at_68 rfl ?_
        intro T21 h21 H21 W21 A21
        have f22 : oA .char Z h21 b17 [(.int (nar .char U1)), (.int (nar .char U2))] := A21
        refine o_astore H21 (L' := #[.val (.int p1), .val (.int p2), .val (.int p3), .val (.int p4), .val (.int p5), .val (.int U1), .val (.int U2), .val (.int U3), .val (.int (2 : Int32)), .val (.ref b17), .unset, .unset]) rfl rfl at_69 rfl ?_
        refine o_goto H21 at_71 (pt := 94) (by decide) (by decide) ?_
        refine o_iloadN H21 rfl at_94 rfl ?_
        refine o_aload H21 rfl rfl at_95 rfl ?_
        refine o_static H21 [(.int p1), (.ref b17)] [] (rm1_2 l Z a0 hw p1 b17 (nar .char U1) (nar .char U2) h21 n0 H21.le f22) (w1 hw) (w2 hw) (w3 hw) (w4 hw) (by decide) (lenOf pd1 rfl) rfl rfl (by decide) (Nat.le_of_ble_eq_true rfl) (by decide) (by decide) at_97 rfl ?_
        intro T23 v23 h23 H23 q23
        obtain ⟨r23, rfl, K23, B23, A23⟩ := q23
        have ne23_b17 : b17 ≠ r23 := Nat.ne_of_lt (Nat.lt_of_lt_of_le (f22).lt B23)
        have z23 : n0 ≤ r23 := Nat.le_trans H21.le B23
        have f24 := f22.keep K23 nin0
        show oG p e below s n0 _ _ _ (T23.setTop (mkF m 100 #[.val (.int p1), .val (.int p2), .val (.int p3), .val (.int p4), .val (.int p5), .val (.int U1), .val (.int U2), .val (.int U3), .val (.int (2 : Int32)), .val (.ref b17), .unset, .unset] [(.ref r23)]))
        refine o_astore H23 (L' := #[.val (.int p1), .val (.int p2), .val (.int p3), .val (.int p4), .val (.int p5), .val (.int U1), .val (.int U2), .val (.int U3), .val (.int (2 : Int32)), .val (.ref b17), .val (.ref r23), .unset]) rfl rfl at_100 rfl ?_
        refine o_aload H23 rfl rfl at_102 rfl ?_
        refine o_arraylength H23 (5 : Int32) A23 rfl at_104 rfl ?_
        refine o_iconst H23 (1 : Int32) rfl at_105 rfl ?_
        refine o_iconst H23 (2 : Int32) rfl at_106 rfl ?_
        refine o_iload H23 rfl at_107 rfl ?_
        refine o_imul H23 at_109 rfl ?_
        refine o_fold (4 : Int32) (by decide) ?_
        refine o_iadd H23 at_110 rfl ?_
        refine o_fold (5 : Int32) (by decide) ?_
        refine o_icmp_t H23 at_111 (by decide) (pt := 116) (by decide) (by decide) ?_
        refine o_iloadN H23 rfl at_116 rfl ?_
        refine o_sipush H23 (256 : Int32) rfl at_117 rfl ?_
        refine o_irem H23 (by decide) at_120 rfl ?_
        refine o_sipush H23 (256 : Int32) rfl at_121 rfl ?_
        refine o_iadd H23 at_124 rfl ?_
        refine o_sipush H23 (256 : Int32) rfl at_125 rfl ?_
        refine o_irem H23 (by decide) at_128 rfl ?_
        refine o_istore H23 (L' := #[.val (.int p1), .val (.int p2), .val (.int p3), .val (.int p4), .val (.int p5), .val (.int U1), .val (.int U2), .val (.int U3), .val (.int (2 : Int32)), .val (.ref b17), .val (.ref r23), .val (.int (((p1 % (256 : Int32)) + (256 : Int32)) % (256 : Int32)))]) rfl at_129 rfl ?_
        refine o_aload H23 rfl rfl at_131 rfl ?_
        refine o_iconst H23 (0 : Int32) rfl at_133 rfl ?_
        refine o_baload H23 0 (.int (nar .byte (p1.toInt8.toInt32))) A23 (by decide) rfl at_134 rfl ?_
        refine o_sipush H23 (255 : Int32) rfl at_135 rfl ?_
        refine o_iand H23 at_138 rfl ?_
        refine o_iload H23 rfl at_139 rfl ?_
        refine o_icmp_t H23 at_141 (XT.ii_eq_t (own_low p1)) (pt := 146) (by decide) (by decide) ?_
        refine o_iload H23 rfl at_146 rfl ?_
        refine o_iconst H23 (1 : Int32) rfl at_148 rfl ?_
        refine o_icmp_f H23 at_149 (by decide) rfl ?_
        refine o_aload H23 rfl rfl at_152 rfl ?_
        refine o_iconst H23 (0 : Int32) rfl at_154 rfl ?_
        refine o_iload H23 rfl at_155 rfl ?_
        refine o_static H23 [(.ref r23), (.int (0 : Int32)), (.int U1)] [] ((rm2 l Z a0 hw r23 (0 : Int32) U1 [(.int (nar .byte (p1.toInt8.toInt32))), (.int (nar .byte ((XT.ushr (nar .char U1) (8 : Int32)).toInt8.toInt32))), (.int (nar .byte ((nar .char U1).toInt8.toInt32))), (.int (nar .byte ((XT.ushr (nar .char U2) (8 : Int32)).toInt8.toInt32))), (.int (nar .byte ((nar .char U2).toInt8.toInt32)))] 1 2 (nar .byte ((XT.ushr (nar .char U1) (8 : Int32)).toInt8.toInt32)) (nar .byte ((nar .char U1).toInt8.toInt32)) h23 n0 H23.le A23 (by decide) rfl (by decide) rfl).mono (fun v h q => (⟨by rw [q.1, own_ok _ _ e_U1], q.2⟩ : v = some (.int 1) ∧ h23 = h))) (w6 hw) (w7 hw) (w8 hw) (w9 hw) (by decide) (lenOf pd2 rfl) rfl rfl (by decide) (Nat.le_of_ble_eq_true rfl) (by decide) (by decide) at_157 rfl ?_
        intro T25 v25 h25 H25 q25
        obtain ⟨rfl, rfl⟩ := q25
        show oG p e below s n0 _ _ _ (T25.setTop (mkF m 160 #[.val (.int p1), .val (.int p2), .val (.int p3), .val (.int p4), .val (.int p5), .val (.int U1), .val (.int U2), .val (.int U3), .val (.int (2 : Int32)), .val (.ref b17), .val (.ref r23), .val (.int (((p1 % (256 : Int32)) + (256 : Int32)) % (256 : Int32)))] [(.int (1 : Int32))]))
        refine o_if_t H25 at_160 (by decide) (pt := 165) (by decide) (by decide) ?_
        refine o_iload H25 rfl at_165 rfl ?_
        refine o_iconst H25 (2 : Int32) rfl at_167 rfl ?_
        refine o_icmp_f H25 at_168 (by decide) rfl ?_
        refine o_aload H25 rfl rfl at_171 rfl ?_
        refine o_iconst H25 (1 : Int32) rfl at_173 rfl ?_
        refine o_iload H25 rfl at_174 rfl ?_
        refine o_static H25 [(.ref r23), (.int (1 : Int32)), (.int U2)] [] ((rm2 l Z a0 hw r23 (1 : Int32) U2 [(.int (nar .byte (p1.toInt8.toInt32))), (.int (nar .byte ((XT.ushr (nar .char U1) (8 : Int32)).toInt8.toInt32))), (.int (nar .byte ((nar .char U1).toInt8.toInt32))), (.int (nar .byte ((XT.ushr (nar .char U2) (8 : Int32)).toInt8.toInt32))), (.int (nar .byte ((nar .char U2).toInt8.toInt32)))] 3 4 (nar .byte ((XT.ushr (nar .char U2) (8 : Int32)).toInt8.toInt32)) (nar .byte ((nar .char U2).toInt8.toInt32)) h23 n0 H25.le A23 (by decide) rfl (by decide) rfl).mono (fun v h q => (⟨by rw [q.1, own_ok _ _ e_U2], q.2⟩ : v = some (.int 1) ∧ h23 = h))) (w6 hw) (w7 hw) (w8 hw) (w9 hw) (by decide) (lenOf pd2 rfl) rfl rfl (by decide) (Nat.le_of_ble_eq_true rfl) (by decide) (by decide) at_176 rfl ?_
        intro T26 v26 h26 H26 q26
        obtain ⟨rfl, rfl⟩ := q26
        show oG p e below s n0 _ _ _ (T26.setTop (mkF m 179 #[.val (.int p1), .val (.int p2), .val (.int p3), .val (.int p4), .val (.int p5), .val (.int U1), .val (.int U2), .val (.int U3), .val (.int (2 : Int32)), .val (.ref b17), .val (.ref r23), .val (.int (((p1 % (256 : Int32)) + (256 : Int32)) % (256 : Int32)))] [(.int (1 : Int32))]))
        refine o_if_t H26 at_179 (by decide) (pt := 184) (by decide) (by decide) ?_
        refine o_iload H26 rfl at_184 rfl ?_
        refine o_iconst H26 (3 : Int32) rfl at_186 rfl ?_
        refine o_icmp_t H26 at_187 (by decide) (pt := 203) (by decide) (by decide) ?_
        refine o_iconst H26 (1 : Int32) rfl at_203 rfl ?_
        exact o_nreturn H26 .boolean rfl (by simp) at_204 (by decide) (by decide) rfl
    · intro c34_2
      subst c34_2
      refine o_iconst H (1 : Int32) rfl at_37 rfl ?_
      refine o_newarr (aty := .char) H 1 1 (w0 hw) (by decide) (by decide) (by decide) at_38 rfl (by decide) (by decide) ?_
      intro T27 h27 b27 g27 H27 E27 A27
      have z27 : n0 ≤ b27 := by rw [g27]; exact H.le
      have f28 : oA .char Z h27 b27 [(.int 0)] := A27
      refine o_dup H27 rfl at_40 rfl ?_
      refine o_iconst H27 (0 : Int32) rfl at_41 rfl ?_
      refine o_iload H27 rfl at_42 rfl ?_
      refine o_castore H27 0 f28 (by decide) (Nat.le_of_ble_eq_true rfl) z27 at_44 rfl ?_
      intro T29 h29 H29 W29 A29
      have f30 : oA .char Z h29 b27 [(.int (nar .char U1))] := A29
      refine o_astore H29 (L' := #[.val (.int p1), .val (.int p2), .val (.int p3), .val (.int p4), .val (.int p5), .val (.int U1), .val (.int U2), .val (.int U3), .val (.int (1 : Int32)), .val (.ref b27), .unset, .unset]) rfl rfl at_45 rfl ?_
      refine o_goto H29 at_47 (pt := 94) (by decide) (by decide) ?_
      refine o_iloadN H29 rfl at_94 rfl ?_
      refine o_aload H29 rfl rfl at_95 rfl ?_
      refine o_static H29 [(.int p1), (.ref b27)] [] (rm1_1 l Z a0 hw p1 b27 (nar .char U1) h29 n0 H29.le f30) (w1 hw) (w2 hw) (w3 hw) (w4 hw) (by decide) (lenOf pd1 rfl) rfl rfl (by decide) (Nat.le_of_ble_eq_true rfl) (by decide) (by decide) at_97 rfl ?_
      intro T31 v31 h31 H31 q31
      obtain ⟨r31, rfl, K31, B31, A31⟩ := q31
      have ne31_b27 : b27 ≠ r31 := Nat.ne_of_lt (Nat.lt_of_lt_of_le (f30).lt B31)
      have z31 : n0 ≤ r31 := Nat.le_trans H29.le B31
      have f32 := f30.keep K31 nin0
      show oG p e below s n0 _ _ _ (T31.setTop (mkF m 100 #[.val (.int p1), .val (.int p2), .val (.int p3), .val (.int p4), .val (.int p5), .val (.int U1), .val (.int U2), .val (.int U3), .val (.int (1 : Int32)), .val (.ref b27), .unset, .unset] [(.ref r31)]))
      refine o_astore H31 (L' := #[.val (.int p1), .val (.int p2), .val (.int p3), .val (.int p4), .val (.int p5), .val (.int U1), .val (.int U2), .val (.int U3), .val (.int (1 : Int32)), .val (.ref b27), .val (.ref r31), .unset]) rfl rfl at_100 rfl ?_
      refine o_aload H31 rfl rfl at_102 rfl ?_
      refine o_arraylength H31 (3 : Int32) A31 rfl at_104 rfl ?_
      refine o_iconst H31 (1 : Int32) rfl at_105 rfl ?_
      refine o_iconst H31 (2 : Int32) rfl at_106 rfl ?_
      refine o_iload H31 rfl at_107 rfl ?_
      refine o_imul H31 at_109 rfl ?_
      refine o_fold (2 : Int32) (by decide) ?_
      refine o_iadd H31 at_110 rfl ?_
      refine o_fold (3 : Int32) (by decide) ?_
      refine o_icmp_t H31 at_111 (by decide) (pt := 116) (by decide) (by decide) ?_
      refine o_iloadN H31 rfl at_116 rfl ?_
      refine o_sipush H31 (256 : Int32) rfl at_117 rfl ?_
      refine o_irem H31 (by decide) at_120 rfl ?_
      refine o_sipush H31 (256 : Int32) rfl at_121 rfl ?_
      refine o_iadd H31 at_124 rfl ?_
      refine o_sipush H31 (256 : Int32) rfl at_125 rfl ?_
      refine o_irem H31 (by decide) at_128 rfl ?_
      refine o_istore H31 (L' := #[.val (.int p1), .val (.int p2), .val (.int p3), .val (.int p4), .val (.int p5), .val (.int U1), .val (.int U2), .val (.int U3), .val (.int (1 : Int32)), .val (.ref b27), .val (.ref r31), .val (.int (((p1 % (256 : Int32)) + (256 : Int32)) % (256 : Int32)))]) rfl at_129 rfl ?_
      refine o_aload H31 rfl rfl at_131 rfl ?_
      refine o_iconst H31 (0 : Int32) rfl at_133 rfl ?_
      refine o_baload H31 0 (.int (nar .byte (p1.toInt8.toInt32))) A31 (by decide) rfl at_134 rfl ?_
      refine o_sipush H31 (255 : Int32) rfl at_135 rfl ?_
      refine o_iand H31 at_138 rfl ?_
      refine o_iload H31 rfl at_139 rfl ?_
      refine o_icmp_t H31 at_141 (XT.ii_eq_t (own_low p1)) (pt := 146) (by decide) (by decide) ?_
      refine o_iload H31 rfl at_146 rfl ?_
      refine o_iconst H31 (1 : Int32) rfl at_148 rfl ?_
      refine o_icmp_f H31 at_149 (by decide) rfl ?_
      refine o_aload H31 rfl rfl at_152 rfl ?_
      refine o_iconst H31 (0 : Int32) rfl at_154 rfl ?_
      refine o_iload H31 rfl at_155 rfl ?_
      refine o_static H31 [(.ref r31), (.int (0 : Int32)), (.int U1)] [] ((rm2 l Z a0 hw r31 (0 : Int32) U1 [(.int (nar .byte (p1.toInt8.toInt32))), (.int (nar .byte ((XT.ushr (nar .char U1) (8 : Int32)).toInt8.toInt32))), (.int (nar .byte ((nar .char U1).toInt8.toInt32)))] 1 2 (nar .byte ((XT.ushr (nar .char U1) (8 : Int32)).toInt8.toInt32)) (nar .byte ((nar .char U1).toInt8.toInt32)) h31 n0 H31.le A31 (by decide) rfl (by decide) rfl).mono (fun v h q => (⟨by rw [q.1, own_ok _ _ e_U1], q.2⟩ : v = some (.int 1) ∧ h31 = h))) (w6 hw) (w7 hw) (w8 hw) (w9 hw) (by decide) (lenOf pd2 rfl) rfl rfl (by decide) (Nat.le_of_ble_eq_true rfl) (by decide) (by decide) at_157 rfl ?_
      intro T33 v33 h33 H33 q33
      obtain ⟨rfl, rfl⟩ := q33
      show oG p e below s n0 _ _ _ (T33.setTop (mkF m 160 #[.val (.int p1), .val (.int p2), .val (.int p3), .val (.int p4), .val (.int p5), .val (.int U1), .val (.int U2), .val (.int U3), .val (.int (1 : Int32)), .val (.ref b27), .val (.ref r31), .val (.int (((p1 % (256 : Int32)) + (256 : Int32)) % (256 : Int32)))] [(.int (1 : Int32))]))
      refine o_if_t H33 at_160 (by decide) (pt := 165) (by decide) (by decide) ?_
      refine o_iload H33 rfl at_165 rfl ?_
      refine o_iconst H33 (2 : Int32) rfl at_167 rfl ?_
      refine o_icmp_t H33 at_168 (by decide) (pt := 184) (by decide) (by decide) ?_
      refine o_iload H33 rfl at_184 rfl ?_
      refine o_iconst H33 (3 : Int32) rfl at_186 rfl ?_
      refine o_icmp_t H33 at_187 (by decide) (pt := 203) (by decide) (by decide) ?_
      refine o_iconst H33 (1 : Int32) rfl at_203 rfl ?_
      exact o_nreturn H33 .boolean rfl (by simp) at_204 (by decide) (by decide) rfl
  · intro c20_1
    subst c20_1
    refine o_iconst H (0 : Int32) rfl at_23 rfl ?_
    refine o_newarr (aty := .char) H 0 0 (w0 hw) (by decide) (by decide) (by decide) at_24 rfl (by decide) (by decide) ?_
    intro T34 h34 b34 g34 H34 E34 A34
    have z34 : n0 ≤ b34 := by rw [g34]; exact H.le
    have f35 : oA .char Z h34 b34 [] := A34
    refine o_astore H34 (L' := #[.val (.int p1), .val (.int p2), .val (.int p3), .val (.int p4), .val (.int p5), .val (.int U1), .val (.int U2), .val (.int U3), .val (.int (0 : Int32)), .val (.ref b34), .unset, .unset]) rfl rfl at_26 rfl ?_
    refine o_goto H34 at_28 (pt := 94) (by decide) (by decide) ?_
    refine o_iloadN H34 rfl at_94 rfl ?_
    refine o_aload H34 rfl rfl at_95 rfl ?_
    refine o_static H34 [(.int p1), (.ref b34)] [] (rm1_0 l Z a0 hw p1 b34  h34 n0 H34.le f35) (w1 hw) (w2 hw) (w3 hw) (w4 hw) (by decide) (lenOf pd1 rfl) rfl rfl (by decide) (Nat.le_of_ble_eq_true rfl) (by decide) (by decide) at_97 rfl ?_
    intro T36 v36 h36 H36 q36
    obtain ⟨r36, rfl, K36, B36, A36⟩ := q36
    have ne36_b34 : b34 ≠ r36 := Nat.ne_of_lt (Nat.lt_of_lt_of_le (f35).lt B36)
    have z36 : n0 ≤ r36 := Nat.le_trans H34.le B36
    have f37 := f35.keep K36 nin0
    show oG p e below s n0 _ _ _ (T36.setTop (mkF m 100 #[.val (.int p1), .val (.int p2), .val (.int p3), .val (.int p4), .val (.int p5), .val (.int U1), .val (.int U2), .val (.int U3), .val (.int (0 : Int32)), .val (.ref b34), .unset, .unset] [(.ref r36)]))
    refine o_astore H36 (L' := #[.val (.int p1), .val (.int p2), .val (.int p3), .val (.int p4), .val (.int p5), .val (.int U1), .val (.int U2), .val (.int U3), .val (.int (0 : Int32)), .val (.ref b34), .val (.ref r36), .unset]) rfl rfl at_100 rfl ?_
    refine o_aload H36 rfl rfl at_102 rfl ?_
    refine o_arraylength H36 (1 : Int32) A36 rfl at_104 rfl ?_
    refine o_iconst H36 (1 : Int32) rfl at_105 rfl ?_
    refine o_iconst H36 (2 : Int32) rfl at_106 rfl ?_
    refine o_iload H36 rfl at_107 rfl ?_
    refine o_imul H36 at_109 rfl ?_
    refine o_fold (0 : Int32) (by decide) ?_
    refine o_iadd H36 at_110 rfl ?_
    refine o_fold (1 : Int32) (by decide) ?_
    refine o_icmp_t H36 at_111 (by decide) (pt := 116) (by decide) (by decide) ?_
    refine o_iloadN H36 rfl at_116 rfl ?_
    refine o_sipush H36 (256 : Int32) rfl at_117 rfl ?_
    refine o_irem H36 (by decide) at_120 rfl ?_
    refine o_sipush H36 (256 : Int32) rfl at_121 rfl ?_
    refine o_iadd H36 at_124 rfl ?_
    refine o_sipush H36 (256 : Int32) rfl at_125 rfl ?_
    refine o_irem H36 (by decide) at_128 rfl ?_
    refine o_istore H36 (L' := #[.val (.int p1), .val (.int p2), .val (.int p3), .val (.int p4), .val (.int p5), .val (.int U1), .val (.int U2), .val (.int U3), .val (.int (0 : Int32)), .val (.ref b34), .val (.ref r36), .val (.int (((p1 % (256 : Int32)) + (256 : Int32)) % (256 : Int32)))]) rfl at_129 rfl ?_
    refine o_aload H36 rfl rfl at_131 rfl ?_
    refine o_iconst H36 (0 : Int32) rfl at_133 rfl ?_
    refine o_baload H36 0 (.int (nar .byte (p1.toInt8.toInt32))) A36 (by decide) rfl at_134 rfl ?_
    refine o_sipush H36 (255 : Int32) rfl at_135 rfl ?_
    refine o_iand H36 at_138 rfl ?_
    refine o_iload H36 rfl at_139 rfl ?_
    refine o_icmp_t H36 at_141 (XT.ii_eq_t (own_low p1)) (pt := 146) (by decide) (by decide) ?_
    refine o_iload H36 rfl at_146 rfl ?_
    refine o_iconst H36 (1 : Int32) rfl at_148 rfl ?_
    refine o_icmp_t H36 at_149 (by decide) (pt := 165) (by decide) (by decide) ?_
    refine o_iload H36 rfl at_165 rfl ?_
    refine o_iconst H36 (2 : Int32) rfl at_167 rfl ?_
    refine o_icmp_t H36 at_168 (by decide) (pt := 184) (by decide) (by decide) ?_
    refine o_iload H36 rfl at_184 rfl ?_
    refine o_iconst H36 (3 : Int32) rfl at_186 rfl ?_
    refine o_icmp_t H36 at_187 (by decide) (pt := 203) (by decide) (by decide) ?_
    refine o_iconst H36 (1 : Int32) rfl at_203 rfl ?_
    exact o_nreturn H36 .boolean rfl (by simp) at_204 (by decide) (by decide) rfl
set_option maxRecDepth 65536 in
set_option maxHeartbeats 40000000 in
theorem comes_1 {Post : Tables → Env → Array Value → State → Outcome → State → Prop} (hpost : ∀ tb e args s v u, (limb_1_1.after args s (.returned v) u = true ∧ limb_1_2.after args s (.returned v) u = true ∧ True) → FrameEnd s (.returned v) u (Jvm.fieldLocs frame_1_writes args s ++ Jvm.arrayLocs frame_1_arrays args s ++ Jvm.staticLocs frame_1_statics s) 16 128 → Post tb e args s (.returned v) u) :
    ArmFor flags0 classFile x code maxLocals ret World_1 tables_1 room_1 Calls_1 rest_1 Pre_1 Post := by
  intro l hfl _ _ p e ha hc hk s m args below hf hA hF happ hP
  obtain ⟨hcalls, hrest, hpre⟩ := hP
  obtain ⟨-, -, -, hnamed, -, -, -, hat⟩ := (Spec.applies_iff hf).mp happ
  obtain ⟨hg, hn⟩ := and_e (Cond.before_iff.mp (show (Jvm.Cond.and given_1 narrow_1).before args s = true from hpre))
  obtain ⟨g0, gs0⟩ := and_e hg
  obtain ⟨a0, gs1⟩ := and_e gs0
  obtain ⟨a1, gs2⟩ := and_e gs1
  obtain ⟨a2, gs3⟩ := and_e gs2
  obtain ⟨a3, gs4⟩ := and_e gs3
  have a4 := gs4
  obtain ⟨w0, w1, w2, w3, w4, rfl⟩ : ∃ w0 w1 w2 w3 w4 : Value, args = #[w0, w1, w2, w3, w4] := by
    have hs : args.size = 5 := by simpa [Cond.value, given_1] using g0
    obtain ⟨L⟩ := args
    match L, hs with
    | [w0, w1, w2, w3, w4], _ => exact ⟨w0, w1, w2, w3, w4, rfl⟩
  have hw := fun d (hd : d ∈ tables_1) => atoms_spec (ws := Jvm.Cond.code x code maxLocals ret :: tables_1) hat d (List.mem_cons_of_mem _ hd)
  have hfit : Fit s := fun {y c} hc i hi => by
    obtain ⟨ha, rfl⟩ := Array.getElem?_eq_some_iff.mp hc
    have q := List.all_eq_true.mp ((Array.all_eq_true_iff_forall_mem.mp hF) _ (Array.getElem_mem ha)) i (List.mem_range.mpr hi)
    simpa [Array.getElem?_eq_getElem hi] using q
  obtain ⟨i0, e0⟩ := is_v a0
  obtain rfl : w0 = (.int i0) := Option.some.inj e0
  obtain ⟨i1, e1⟩ := is_v a1
  obtain rfl : w1 = (.int i1) := Option.some.inj e1
  obtain ⟨i2, e2⟩ := is_v a2
  obtain rfl : w2 = (.int i2) := Option.some.inj e2
  obtain ⟨i3, e3⟩ := is_v a3
  obtain rfl : w3 = (.int i3) := Option.some.inj e3
  obtain ⟨i4, e4⟩ := is_v a4
  obtain rfl : w4 = (.int i4) := Option.some.inj e4
  obtain ⟨n, o, h1, h2, h3, _, L, rfl, ⟨rfl, N⟩, hq⟩ := rm0 l s _ hw i0 i1 i2 i3 i4  s.heap s.heap.size (Nat.le_refl _)  tables_1 p e ha hc hk s m _ below hf ((Spec.applies_iff_loose hf).mp happ).1 ⟨rfl, State.Warmed39.refl s, rfl⟩ trivial
  refine ⟨n, _, h1, h2, h3, hpost _ _ _ _ _ _ ⟨Cond.after_iff.mpr rfl, Cond.after_iff.mpr (eq_i res_at (Term.int_eval (1)) rfl), trivial⟩ ⟨hq.1, hq.2.1, (hq.2.2.sift fun y hy => Or.inr (N y hy)).mono (by decide) (by decide)⟩⟩
theorem main_1_1 : Claimed_1_1 := comes_1 fun _ _ _ _ _ _ h hF => ⟨h.1, hF⟩
theorem main_1_2 : Claimed_1_2 := comes_1 fun _ _ _ _ _ _ h hF => ⟨h.2.1, hF⟩
end Jvm.Pilot.@@N@@
namespace Jvm.Pilot.@@N@@
open Jvm Jvm.ClassFile Sem Op Lib Jvm.Free Jvm.Stand Jvm.Pilot.@@N@@.Jvm.D
/-! MADE BY PROGRAM (witnessworld.py) out of the Statement's table words and the real class files: 13 classes; the members and pool entries that the words name. The judged class is class 1, her method 1. -/
namespace start1
open Jvm.ClassFile
def u (s : String) : CpInfo := .utf8 (stringToUtf16 s)
/-- a pool by its gaps: so many unusable entries, then the entry; so many at the end -/
def gap : Nat → List CpInfo → List CpInfo
  | 0, r => r
  | n + 1, r => .unusable :: gap n r
def poolList (es : List (Nat × CpInfo)) (last : Nat) : List CpInfo := es.foldr (fun e r => gap e.1 (e.2 :: r)) (gap last [])
def pool (es : List (Nat × CpInfo)) (last : Nat) : Array CpInfo := ⟨poolList es last⟩
def fileOf (pool : Array CpInfo) (this : Nat) (attrs : Array Attribute := #[]) (ms : Array MethodInfo := #[]) (fl : Nat := 33) (sup : Nat := 0) (ifs : Array Nat := #[]) (fds : Array FieldInfo := #[]) : ClassFile where
  minorVersion := 0
  majorVersion := 65
  constantPool := pool
  accessFlags := fl
  thisClass := this
  superClass := sup
  interfaces := ifs
  fields := fds
  methods := ms
  attributes := attrs
def plain (name : String) (sup : Option ClassId) : Class where
  name := name
  kind := .ordinary
  loader := none
  accessFlags := 33
  super := sup
  interfaces := #[]
  cf := none
  fields := #[]
  methods := #[]
  instanceTypes := #[]
  staticTypes := #[]
  resolved := #[]
  callSites := []
  init := .initialized
  statics := none
  mirror := none

def pool0 : Array CpInfo := pool [(5, u "<init>"), (0, u "()V"), (1, .class_ 10), (1, u "java/lang/Object")] 113

def k0m0 : Method := { name := "<init>", desc := "()V", sig := { parameters := [], returnType := none }, accessFlags := 1, code := none }
/-- java/lang/Object -/
def k0 : Class := { plain "java/lang/Object" none with
  accessFlags := 33
  interfaces := #[]
  cf := some (fileOf pool0 8 #[] #[{ accessFlags := 1, nameIndex := 5, descriptorIndex := 6, attributes := #[] }] 33 0 #[] #[])
  fields := #[]
  methods := #[k0m0]
  instanceTypes := #[]
  staticTypes := #[]
  resolved := Array.replicate 124 none
  statics := none }

def pool1 : Array CpInfo := pool [(2, .class_ 4), (1, u "java/lang/Object"), (0, u "<init>"), (0, u "()V"), (0, .methodref 8 9), (0, .class_ 10), (0, .nameAndType 11 12), (0, u "com/example/encase/encase/codec/Base32Format"), (0, u "uncompressed"), (0, u "(I[C)[B"), (0, .methodref 14 15), (0, .class_ 16), (0, .nameAndType 17 18), (0, u "com/example/encase/encase/codec/Base32FormatUncompressedPinLaw"), (0, u "pair"), (0, u "([BIC)Z"), (2, u "law"), (0, u "(IIIII)Z")] 7

def k1m0 : Method := { name := "<init>", desc := "()V", sig := { parameters := [], returnType := none }, accessFlags := 2, code := none }
def k1c1 : Code := { maxStack := 4, maxLocals := 12, code := code, exceptionTable := #[], attributes := #[] }
def k1m1 : Method := { name := "law", desc := "(IIIII)Z", sig := { parameters := [.int, .int, .int, .int, .int], returnType := some .boolean }, accessFlags := 9, code := some k1c1 }
def k1c2 : Code := { maxStack := 4, maxLocals := 5, code := method_3_code, exceptionTable := #[], attributes := #[] }
def k1m2 : Method := { name := "pair", desc := "([BIC)Z", sig := { parameters := [(.array .byte), .int, .char], returnType := some .boolean }, accessFlags := 10, code := some k1c2 }
/-- com/example/encase/encase/codec/Base32FormatUncompressedPinLaw -/
def k1 : Class := { plain "com/example/encase/encase/codec/Base32FormatUncompressedPinLaw" (some 0) with
  accessFlags := 49
  interfaces := #[]
  cf := some (fileOf pool1 14 #[] #[{ accessFlags := 2, nameIndex := 5, descriptorIndex := 6, attributes := #[] }, { accessFlags := 9, nameIndex := 21, descriptorIndex := 22, attributes := #[] }, { accessFlags := 10, nameIndex := 17, descriptorIndex := 18, attributes := #[] }] 49 2 #[] #[])
  fields := #[]
  methods := #[k1m0, k1m1, k1m2]
  instanceTypes := #[]
  staticTypes := #[]
  resolved := Array.replicate 30 none
  statics := none }

def pool2 : Array CpInfo := pool [(1, .class_ 2), (0, u "com/example/encase/encase/codec/Format"), (0, .class_ 4), (0, u "java/lang/Object")] 11

/-- com/example/encase/encase/codec/Format -/
def k2 : Class := { plain "com/example/encase/encase/codec/Format" (some 0) with
  accessFlags := 1537
  interfaces := #[]
  cf := some (fileOf pool2 1 #[] #[] 1537 3 #[] #[])
  fields := #[]
  methods := #[]
  instanceTypes := #[]
  staticTypes := #[]
  resolved := Array.replicate 16 none
  statics := none }

def pool3 : Array CpInfo := pool [(2, .class_ 4), (1, u "java/lang/Object"), (3, .class_ 10), (1, u "com/example/encase/encase/codec/AbstractFormat"), (0, u "name"), (0, u "Ljava/lang/String;"), (2, u "tag"), (89, .class_ 106), (0, u "com/example/encase/encase/codec/Format")] 35

/-- com/example/encase/encase/codec/AbstractFormat -/
def k3 : Class := { plain "com/example/encase/encase/codec/AbstractFormat" (some 0) with
  accessFlags := 1056
  interfaces := #[2]
  cf := some (fileOf pool3 8 #[] #[] 1056 2 #[105] #[{ accessFlags := 18, nameIndex := 11, descriptorIndex := 12, attributes := #[] }, { accessFlags := 18, nameIndex := 15, descriptorIndex := 12, attributes := #[] }])
  fields := #[{ name := "name", type := (.object "java/lang/String"), accessFlags := 18, slot := 0, constantValue := 0 }, { name := "tag", type := (.object "java/lang/String"), accessFlags := 18, slot := 1, constantValue := 0 }]
  methods := #[]
  instanceTypes := #[(.object "java/lang/String"), (.object "java/lang/String")]
  staticTypes := #[]
  resolved := Array.replicate 142 none
  statics := none }

def pool4 : Array CpInfo := pool [(2, .class_ 4), (1, u "com/example/encase/encase/codec/AbstractFormat"), (3, .class_ 10), (1, u "com/example/encase/encase/codec/Base32Format"), (0, u "maxOctets"), (0, u "I"), (108, u "uncompressed"), (0, u "(I[C)[B")] 47

def k4c0 : Code := { maxStack := 4, maxLocals := 5, code := prog_17_method_9_code, exceptionTable := #[], attributes := #[] }
def k4m0 : Method := { name := "uncompressed", desc := "(I[C)[B", sig := { parameters := [.int, (.array .char)], returnType := some (.array .byte) }, accessFlags := 8, code := some k4c0 }
/-- com/example/encase/encase/codec/Base32Format -/
def k4 : Class := { plain "com/example/encase/encase/codec/Base32Format" (some 3) with
  accessFlags := 1056
  interfaces := #[]
  cf := some (fileOf pool4 8 #[] #[{ accessFlags := 8, nameIndex := 121, descriptorIndex := 122, attributes := #[] }] 1056 2 #[] #[{ accessFlags := 18, nameIndex := 11, descriptorIndex := 12, attributes := #[] }])
  fields := #[{ name := "maxOctets", type := .int, accessFlags := 18, slot := 2, constantValue := 0 }]
  methods := #[k4m0]
  instanceTypes := #[(.object "java/lang/String"), (.object "java/lang/String"), .int]
  staticTypes := #[]
  resolved := Array.replicate 170 none
  statics := none }

def pool5 : Array CpInfo := pool [(1, u "java/lang/Cloneable"), (0, .class_ 1), (0, u "java/lang/Object"), (0, .class_ 3)] 3

/-- java/lang/Cloneable -/
def k5 : Class := { plain "java/lang/Cloneable" (some 0) with
  accessFlags := 1537
  interfaces := #[]
  cf := some (fileOf pool5 2 #[] #[] 1537 4 #[] #[])
  fields := #[]
  methods := #[]
  instanceTypes := #[]
  staticTypes := #[]
  resolved := Array.replicate 8 none
  statics := none }

def pool6 : Array CpInfo := pool [(1, u "java/io/Serializable"), (0, .class_ 1), (0, u "java/lang/Object"), (0, .class_ 3)] 3

/-- java/io/Serializable -/
def k6 : Class := { plain "java/io/Serializable" (some 0) with
  accessFlags := 1537
  interfaces := #[]
  cf := some (fileOf pool6 2 #[] #[] 1537 4 #[] #[])
  fields := #[]
  methods := #[]
  instanceTypes := #[]
  staticTypes := #[]
  resolved := Array.replicate 8 none
  statics := none }

/-- the primitive byte -/
def k7 : Class := { plain "byte" none with kind := .primitive 'B', accessFlags := 0x411 }
/-- [B -/
def k8 : Class := { plain "[B" (some 0) with kind := .array 7 .byte, interfaces := #[5, 6], accessFlags := 1041 }

/-- the primitive char -/
def k9 : Class := { plain "char" none with kind := .primitive 'C', accessFlags := 0x411 }
/-- [C -/
def k10 : Class := { plain "[C" (some 0) with kind := .array 9 .char, interfaces := #[5, 6], accessFlags := 1041 }

/-- the primitive int -/
def k11 : Class := { plain "int" none with kind := .primitive 'I', accessFlags := 0x411 }
/-- [I -/
def k12 : Class := { plain "[I" (some 0) with kind := .array 11 .int, interfaces := #[5, 6], accessFlags := 1041 }

def heap : Heap := #[]
def classes : Array Class := #[k0, k1, k2, k3, k4, k5, k6, k7, k8, k9, k10, k11, k12]
def interned : List (Array UInt16 × Addr) := []
def slotsUsed : Nat := 0
def theMethod : MethodId := ⟨1, 1⟩
def args0 : Array Value := #[.int 5, .int 7, .int 9, .int 3, .int 1]
def aboutOver (below : List Frame) : State where
  vm := { classes := classes, interned := interned.toArray }
  heap := heap
  slotsUsed := slotsUsed
  threads := #[{ frames := .invoking theMethod args0 :: below }]
def below0 : List Frame := [.native { method := ⟨0, 0⟩, args := #[] }]
def about1 : State := aboutOver below0
def p0 : Program := .bare "" "" ""
def e0 : Env := launch0.env 0 0 0
theorem w_frames : about1.frames = Frame.invoking theMethod args0 :: below0 := rfl
set_option maxRecDepth 65536 in
theorem w_args : argsFit about1.vm theMethod args0 = true := by decide +kernel
set_option maxRecDepth 65536 in
theorem w_heap : heapFits about1 = true := by decide +kernel
set_option maxRecDepth 65536 in
theorem w_runnable : about1.curStatus? = some .runnable := by decide +kernel
set_option maxRecDepth 65536 in
theorem w_alone : about1.alone = true := by decide +kernel
set_option maxRecDepth 65536 in
theorem w_named : about1.methodNamed? x = some theMethod := by decide +kernel
set_option maxRecDepth 65536 in
theorem w_hears : about1.hears theMethod below0 = true := by decide +kernel
set_option maxRecDepth 65536 in
theorem w_ripe : about1.ripe theMethod args0 below0 = true := by decide +kernel
theorem w_running : about1.status = .running := rfl
set_option maxRecDepth 65536 in
theorem w_room : about1.hasRoom e0.platform room_1 = true :=
  launch0.hasRoom_least _ room_1 (by decide +kernel) (by decide +kernel) (by decide +kernel) (by decide +kernel) (by decide +kernel) (by decide +kernel)
theorem allAtoms_all (ts : List Jvm.Cond) (a : Array Jvm.Value) (st : Jvm.State) : (allAtoms ts).before a st = ts.all (fun c => c.before a st) := by
  induction ts with
  | nil => rfl
  | cons c t ih =>
    show (Jvm.Cond.and c (allAtoms t)).before a st = _
    rw [Jvm.Cond.before_and, ih, List.all_cons]
def words1 : List Jvm.Cond := Jvm.Cond.code x code maxLocals ret :: tables_1
/-- a 'code' word, met by the world's own term for the bytes: nothing is compared byte by byte -/
theorem code_word {y : MethodName} {bytes : ByteArray} {mx : Nat} {rt : Option FieldType} {a : Array Value} {s : State} {m : MethodId} {meth : Method} {c : Code} (h1 : s.methodNamed? y = some m) (h2 : s.vm.method? m = some meth) (h3 : meth.code = some c) (h4 : c.code = bytes)
    (h5 : (c.maxLocals == mx && c.exceptionTable.isEmpty && decide (c.maxStack ≤ mostOperands) && decide (meth.sig.returnType = rt) && !meth.locks && decide (parseMethodDescriptor y.desc = some meth.sig)) = true) : (Jvm.Cond.code y bytes mx rt).before a s = true := by
  simp only [Bool.and_eq_true, beq_iff_eq, Bool.not_eq_true', decide_eq_true_eq] at h5
  obtain ⟨⟨⟨⟨⟨g1, g2⟩, g3⟩, g4⟩, g5⟩, g6⟩ := h5
  simp [Cond.before, Cond.holds, Cond.value, h1, h2, h3, h4, g1, g2, g3, g4, g5, g6]
def isCode : Jvm.Cond → Bool
  | .code _ _ _ _ => true
  | _ => false
theorem all_split {L : List Jvm.Cond} {P : Jvm.Cond → Bool} (h1 : L.all (fun c => isCode c || P c) = true) (h2 : ∀ c ∈ L.filter isCode, P c = true) : L.all P = true := by
  refine List.all_eq_true.mpr fun c hc => ?_
  have h := List.all_eq_true.mp h1 c hc
  rcases Bool.eq_false_or_eq_true (isCode c) with hi | hi
  · exact h2 c (List.mem_filter.mpr ⟨hc, hi⟩)
  · simpa [hi] using h
set_option maxRecDepth 65536 in
theorem w_c0 : (Jvm.Cond.code x code maxLocals ret).before args0 about1 = true := code_word (m := ⟨1, 1⟩) (meth := k1m1) (c := k1c1) (by decide +kernel) rfl rfl rfl (by decide +kernel)
set_option maxRecDepth 65536 in
theorem w_c1 : (Jvm.Cond.code ({ cls := "com/example/encase/encase/codec/Base32Format", name := "uncompressed", desc := "(I[C)[B" } : Jvm.MethodName) prog_17_method_9_code (5 : Nat) (Option.some (Jvm.ClassFile.FieldType.array Jvm.ClassFile.FieldType.byte))).before args0 about1 = true := code_word (m := ⟨4, 0⟩) (meth := k4m0) (c := k4c0) (by decide +kernel) rfl rfl rfl (by decide +kernel)
set_option maxRecDepth 65536 in
theorem w_c2 : (Jvm.Cond.code ({ cls := "com/example/encase/encase/codec/Base32FormatUncompressedPinLaw", name := "pair", desc := "([BIC)Z" } : Jvm.MethodName) method_3_code (5 : Nat) (Option.some Jvm.ClassFile.FieldType.boolean)).before args0 about1 = true := code_word (m := ⟨1, 2⟩) (meth := k1m2) (c := k1c2) (by decide +kernel) rfl rfl rfl (by decide +kernel)
def codes1 : List Jvm.Cond := [Jvm.Cond.code x code maxLocals ret, Jvm.Cond.code ({ cls := "com/example/encase/encase/codec/Base32Format", name := "uncompressed", desc := "(I[C)[B" } : Jvm.MethodName) prog_17_method_9_code (5 : Nat) (Option.some (Jvm.ClassFile.FieldType.array Jvm.ClassFile.FieldType.byte)), Jvm.Cond.code ({ cls := "com/example/encase/encase/codec/Base32FormatUncompressedPinLaw", name := "pair", desc := "([BIC)Z" } : Jvm.MethodName) method_3_code (5 : Nat) (Option.some Jvm.ClassFile.FieldType.boolean)]
set_option maxRecDepth 65536 in
theorem codes_eq : words1.filter isCode = codes1 := rfl
theorem w_codes : ∀ c ∈ words1.filter isCode, c.before args0 about1 = true := by
  rw [codes_eq]
  intro c hc
  simp only [codes1, List.mem_cons, List.not_mem_nil, or_false] at hc
  rcases hc with rfl | rfl | rfl
  · exact w_c0
  · exact w_c1
  · exact w_c2
set_option maxRecDepth 65536 in
theorem w_t1 : words1.all (fun c => isCode c || c.before args0 about1) = true := by decide +kernel
theorem w_tables : (allAtoms (Jvm.Cond.code x code maxLocals ret :: tables_1)).before args0 about1 = true := by
  rw [allAtoms_all]
  show words1.all (fun c => c.before args0 about1) = true
  refine all_split ?_ w_codes
  rw [w_t1]
set_option maxRecDepth 65536 in
theorem w_case : (Jvm.Cond.and given_1 narrow_1).before args0 about1 = true := by decide +kernel
theorem w_applies : (headSpec (Jvm.Cond.code x code maxLocals ret :: tables_1) room_1).applies x e0.platform about1 = true :=
  (Spec.applies_iff w_frames).mpr ⟨w_running, w_runnable, w_alone, w_named, w_hears, w_ripe, w_room, w_tables⟩
theorem atStart : AtStart classFile x code maxLocals ret World_1 tables_1 room_1 Calls_1 rest_1 Pre_1 launch0 p0 e0 about1 theMethod args0 below0 :=
  ⟨lists_1, trivial, launch0.admits_env _ _ _, launch0.least_env, fairChoices_fair.cas, fairChoices_fair.clock, w_frames, w_args, w_heap, w_applies, trivial, trivial, w_case⟩
end start1
theorem witness_1 : WitnessClaimed_1 := ⟨start1.p0, start1.e0, start1.about1, start1.theMethod, start1.args0, start1.below0, start1.atStart⟩
end Jvm.Pilot.@@N@@
