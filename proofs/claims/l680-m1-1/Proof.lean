import JvmDerived
import JvmDerived.Pilot.@@N@@Statement
import JvmDerived.Pilot.@@N@@Code
set_option linter.unusedVariables false
set_option linter.unusedSimpArgs false
namespace Jvm.RoadKit
open Sem ClassFile Op Lib Jvm.Stand Jvm.Free Jvm.LawKit
section New
variable {p : Program} {l : Launch} {e : Env} {R : Room} {s : State} {m : MethodId} {args : Array Value} {below : List Frame} {meth : Method} {c : Code} {T : State} {locs : List Loc} {cells slots : Nat}
theorem retI (X : Stand p l e R s m args below meth c T locs cells slots) (hx : p.tables.exec = Jvm.exec) {pc : Nat} {Ls : Array Slot} {z : Int32} {rest : List Value} (hret : meth.sig.returnType = some .int) (hd : decode c.code pc = .ok (.ireturn, 1)) {fs : List Frame}
    (hl : ∀ (f : JFrame) (acts : List Action), f.method = m → f.locked = none → f.entered = [] → (doReturn e (T.setTop f) acts (some (.int z))).1 = T.setFrames fs) : Steps p.tables e below (T.setTop (mkF m pc Ls (.int z :: rest))) (T.setFrames fs) := by
  have hm' : T.vm.method? m = some meth := X.method'
  have hn : narrow .int (.int z) = .int z := rfl
  show Steps p.tables e below (T.setTop { method := m, pc := pc, locals := Ls, stack := _ :: rest, locked := none }) _
  jvm_step X.here [X.here.top, hx, hd, hm', hret, hn]
  first | (intro acts; rw [hl _ acts rfl rfl rfl]) | rw [hl _ _ rfl rfl rfl]
  exact Steps.refl _
end New
end Jvm.RoadKit
namespace Jvm.Pilot.@@N@@
open Jvm Jvm.ClassFile Sem Op Lib Jvm.Free Jvm.Stand Jvm.LawKit Jvm.RoadKit Bundle Jvm.Pilot.@@N@@.Jvm.D
section Own
variable {p : Program} {l : Launch} {e : Env} {R : Room} {s : State} {m : MethodId} {args : Array Value} {below : List Frame} {meth : Method} {c : Code} {T : State} {Z : State} {h : Heap} {n0 kc ks cells slots ml pc pc' pt : Nat} {Q : Option Value → Heap → Prop} {bc : ByteArray} {y : MethodName} {rt : Option FieldType} {L L' : Array Slot} {S : List Value} {a0 : Array Value}
def oG (p : Program) (e : Env) (below : List Frame) (s : State) (n0 kc ks : Nat) (Q : Option Value → Heap → Prop) (U : State) : Prop :=
  ∃ s₂ o, Steps p.tables e below U s₂ ∧ s₂.status = .running ∧ Ended s₂ below o ∧ ∃ v L, o = .returned v ∧ (Q v s₂.heap ∧ Fr n0 L) ∧ FrameEnd s o s₂ L kc ks
def oH (p : Program) (l : Launch) (e : Env) (R : Room) (s : State) (m : MethodId) (args : Array Value) (below : List Frame) (meth : Method) (c : Code) (bc : ByteArray) (ml : Nat) (y : MethodName) (rt : Option FieldType) (Z : State) (n0 : Nat) (T : State) (h : Heap) (cells slots : Nat) : Prop :=
  ∃ locs, Stand p l e R s m args below meth c T locs cells slots ∧ T.heap = h ∧ Fr n0 locs ∧ p.tables.exec = Jvm.exec ∧ c.code = bc ∧ c.maxLocals = ml ∧ Z.Warmed39 s.vm ∧ s.vm.findClass y.cls = some m.cls ∧ meth.name = y.name ∧ meth.sig.returnType = rt ∧ meth.locks = false ∧ n0 ≤ s.heap.size
theorem oG.go {U U' : State} (f : ∀ t, Steps p.tables e below U' t → Steps p.tables e below U t) (k : oG p e below s n0 kc ks Q U') : oG p e below s n0 kc ks Q U := by
  obtain ⟨s2, o, h1, r⟩ := k
  exact ⟨s2, o, f _ h1, r⟩
theorem oG.mono {U : State} {Q' : Option Value → Heap → Prop} (k : oG p e below s n0 kc ks Q' U) (f : ∀ v h, Q' v h → Q v h) : oG p e below s n0 kc ks Q U := by
  obtain ⟨s2, o, h1, h2, h3, v, L, h4, ⟨h5, h6⟩, h7⟩ := k
  exact ⟨s2, o, h1, h2, h3, v, L, h4, ⟨f _ _ h5, h6⟩, h7⟩
theorem oH.le (H : oH p l e R s m args below meth c bc ml y rt Z n0 T h cells slots) : n0 ≤ h.size := by
  obtain ⟨locs, X, eT, N, -, -, -, -, -, -, -, -, hn⟩ := H
  have q : s.heap.size ≤ T.heap.size := X.same.2.1
  rw [← eT]; exact Nat.le_trans hn q
theorem oH.more {cells' slots' : Nat} (H : oH p l e R s m args below meth c bc ml y rt Z n0 T h cells slots) (hc : cells ≤ cells') (hs : slots ≤ slots') : oH p l e R s m args below meth c bc ml y rt Z n0 T h cells' slots' := by
  obtain ⟨locs, X, r⟩ := H
  exact ⟨locs, X.more hc hs, r⟩
/-- a method's contract: called with these arguments at the heap h0 it comes back with Q, within the room -/
def oC (l : Launch) (Z : State) (n0 : Nat) (y : MethodName) (bc : ByteArray) (ml : Nat) (rt : Option FieldType) (rm : Room) (kc ks : Nat) (as' : Array Value) (h0 : Heap) (Q : Option Value → Heap → Prop) : Prop :=
  ∀ ws : List Jvm.Cond, MetFree l y (head1 (Jvm.Cond.code y bc ml rt :: ws) rm) (fun a U => a = as' ∧ Z.Warmed39 U.vm ∧ U.heap = h0) (fun _ _ _ _ _ => True) (fun _ U o U' => ∃ v L, o = .returned v ∧ (Q v U'.heap ∧ Fr n0 L) ∧ FrameEnd U o U' L kc ks)
theorem oC.of {rm : Room} {as' : Array Value} {h0 : Heap} (hpl : plainFor y = true) (hn : n0 ≤ h0.size) (hef : ∀ m, entryFrame m as' ml = mkF m 0 L [])
    (body : ∀ (p : Program) (e : Env) (s : State) (m : MethodId) (below : List Frame) (meth : Method) (c : Code) (T : State), oH p l e rm s m as' below meth c bc ml y rt Z n0 T h0 0 0 → oG p e below s n0 kc ks Q (T.setTop (mkF m 0 L []))) : oC l Z n0 y bc ml rt rm kc ks as' h0 Q := by
  intro ws
  refine MetFree.of_bodySF hpl hisR ?_
  intro p e s m args below meth c s₁ Bd hml0 hP hK
  obtain ⟨rfl, hZ, hh⟩ := hP
  have X0 : Stand p l e rm s m args below meth c s₁ [] 0 0 := Stand.of_body Bd
  have e0 : s₁.heap = h0 := by rw [← hh, Bd.state]; rfl
  have k := body p e s m below meth c s₁ ⟨[], X0, e0, Fr.nil n0, Bd.exec, Bd.bytes, hml0, hZ, findClass_of_methodNamed Bd.named, (name_of_methodNamed Bd.named Bd.method).1, Bd.returns, Bd.notSynchronized, by rw [hh]; exact hn⟩
  rw [hef m]; exact k
theorem oC.mono {rm : Room} {as' : Array Value} {h0 : Heap} {Q' : Option Value → Heap → Prop} (k : oC l Z n0 y bc ml rt rm kc ks as' h0 Q') (f : ∀ v h, Q' v h → Q v h) : oC l Z n0 y bc ml rt rm kc ks as' h0 Q := by
  intro ws p e h1 h2 h3 s m args below h4 h5 h6 h7
  obtain ⟨n, o, a1, a2, a3, v, L, a4, ⟨a5, a6⟩, a7⟩ := k ws p e h1 h2 h3 s m args below h4 h5 h6 h7
  exact ⟨n, o, a1, a2, a3, v, L, a4, ⟨f _ _ a5, a6⟩, a7⟩
theorem o_aloadN (H : oH p l e R s m args below meth c bc ml y rt Z n0 T h cells slots) {k : Fin 4} {v : Value} (hl : L[k.val]? = some (.val v)) (hv : v.isRef = true) (hd : decode bc pc = .ok (.aload_n k, 1)) (hp : pc + 1 = pc') (k : oG p e below s n0 kc ks Q (T.setTop (mkF m pc' L (v :: S)))) : oG p e below s n0 kc ks Q (T.setTop (mkF m pc L S)) := by
  obtain ⟨locs, X, eT, N, hx, hby, hml, hZ, hown, hnm, hret, hlk, hn⟩ := H
  subst hp
  exact oG.go (fun t hr => XS.aloadN X.here hx rfl (hb hby hd) hl hv hr) k
theorem o_iloadN (H : oH p l e R s m args below meth c bc ml y rt Z n0 T h cells slots) {k : Fin 4} {v : Int32} (hl : L[k.val]? = some (.val (.int v))) (hd : decode bc pc = .ok (.iload_n k, 1)) (hp : pc + 1 = pc') (k : oG p e below s n0 kc ks Q (T.setTop (mkF m pc' L (.int v :: S)))) : oG p e below s n0 kc ks Q (T.setTop (mkF m pc L S)) := by
  obtain ⟨locs, X, eT, N, hx, hby, hml, hZ, hown, hnm, hret, hlk, hn⟩ := H
  subst hp
  exact oG.go (fun t hr => XS.iloadN X.here hx rfl (hb hby hd) hl hr) k
theorem o_lloadN (H : oH p l e R s m args below meth c bc ml y rt Z n0 T h cells slots) {k : Fin 4} {v : Int64} (hl : L[k.val]? = some (.val (.long v))) (hd : decode bc pc = .ok (.lload_n k, 1)) (hp : pc + 1 = pc') (k : oG p e below s n0 kc ks Q (T.setTop (mkF m pc' L (.long v :: S)))) : oG p e below s n0 kc ks Q (T.setTop (mkF m pc L S)) := by
  obtain ⟨locs, X, eT, N, hx, hby, hml, hZ, hown, hnm, hret, hlk, hn⟩ := H
  subst hp
  exact oG.go (fun t hr => XT.lloadN X.here hx rfl (hb hby hd) hl hr) k
theorem o_astoreN (H : oH p l e R s m args below meth c bc ml y rt Z n0 T h cells slots) {k : Fin 4} {v : Value} (hl : storeLocals L k.val v = some L') (hv : v.isRef = true) (hd : decode bc pc = .ok (.astore_n k, 1)) (hp : pc + 1 = pc') (k : oG p e below s n0 kc ks Q (T.setTop (mkF m pc' L' S))) : oG p e below s n0 kc ks Q (T.setTop (mkF m pc L (v :: S))) := by
  obtain ⟨locs, X, eT, N, hx, hby, hml, hZ, hown, hnm, hret, hlk, hn⟩ := H
  subst hp
  exact oG.go (fun t hr => XS.astoreN X.here hx rfl (hb hby hd) rfl hv hl hr) k
theorem o_istoreN (H : oH p l e R s m args below meth c bc ml y rt Z n0 T h cells slots) {k : Fin 4} {v : Int32} (hl : storeLocals L k.val (.int v) = some L') (hd : decode bc pc = .ok (.istore_n k, 1)) (hp : pc + 1 = pc') (k : oG p e below s n0 kc ks Q (T.setTop (mkF m pc' L' S))) : oG p e below s n0 kc ks Q (T.setTop (mkF m pc L (.int v :: S))) := by
  obtain ⟨locs, X, eT, N, hx, hby, hml, hZ, hown, hnm, hret, hlk, hn⟩ := H
  subst hp
  exact oG.go (fun t hr => XS.istoreN X.here hx rfl (hb hby hd) rfl hl hr) k
theorem o_lstoreN (H : oH p l e R s m args below meth c bc ml y rt Z n0 T h cells slots) {k : Fin 4} {v : Int64} (hl : storeLocals L k.val (.long v) = some L') (hd : decode bc pc = .ok (.lstore_n k, 1)) (hp : pc + 1 = pc') (k : oG p e below s n0 kc ks Q (T.setTop (mkF m pc' L' S))) : oG p e below s n0 kc ks Q (T.setTop (mkF m pc L (.long v :: S))) := by
  obtain ⟨locs, X, eT, N, hx, hby, hml, hZ, hown, hnm, hret, hlk, hn⟩ := H
  subst hp
  exact oG.go (fun t hr => XT.lstoreN X.here hx rfl (hb hby hd) rfl hl hr) k
theorem o_aload (H : oH p l e R s m args below meth c bc ml y rt Z n0 T h cells slots) {k : Nat} {v : Value} (hl : L[k]? = some (.val v)) (hv : v.isRef = true) (hd : decode bc pc = .ok (.aload k, 2)) (hp : pc + 2 = pc') (k : oG p e below s n0 kc ks Q (T.setTop (mkF m pc' L (v :: S)))) : oG p e below s n0 kc ks Q (T.setTop (mkF m pc L S)) := by
  obtain ⟨locs, X, eT, N, hx, hby, hml, hZ, hown, hnm, hret, hlk, hn⟩ := H
  subst hp
  exact oG.go (fun t hr => XS.aload X.here hx rfl (hb hby hd) hl hv hr) k
theorem o_iload (H : oH p l e R s m args below meth c bc ml y rt Z n0 T h cells slots) {k : Nat} {v : Int32} (hl : L[k]? = some (.val (.int v))) (hd : decode bc pc = .ok (.iload k, 2)) (hp : pc + 2 = pc') (k : oG p e below s n0 kc ks Q (T.setTop (mkF m pc' L (.int v :: S)))) : oG p e below s n0 kc ks Q (T.setTop (mkF m pc L S)) := by
  obtain ⟨locs, X, eT, N, hx, hby, hml, hZ, hown, hnm, hret, hlk, hn⟩ := H
  subst hp
  exact oG.go (fun t hr => XS.iload X.here hx rfl (hb hby hd) hl hr) k
theorem o_lload (H : oH p l e R s m args below meth c bc ml y rt Z n0 T h cells slots) {k : Nat} {v : Int64} (hl : L[k]? = some (.val (.long v))) (hd : decode bc pc = .ok (.lload k, 2)) (hp : pc + 2 = pc') (k : oG p e below s n0 kc ks Q (T.setTop (mkF m pc' L (.long v :: S)))) : oG p e below s n0 kc ks Q (T.setTop (mkF m pc L S)) := by
  obtain ⟨locs, X, eT, N, hx, hby, hml, hZ, hown, hnm, hret, hlk, hn⟩ := H
  subst hp
  exact oG.go (fun t hr => XT.lload X.here hx rfl (hb hby hd) hl hr) k
theorem o_astore (H : oH p l e R s m args below meth c bc ml y rt Z n0 T h cells slots) {k : Nat} {v : Value} (hl : storeLocals L k v = some L') (hv : v.isRef = true) (hd : decode bc pc = .ok (.astore k, 2)) (hp : pc + 2 = pc') (k : oG p e below s n0 kc ks Q (T.setTop (mkF m pc' L' S))) : oG p e below s n0 kc ks Q (T.setTop (mkF m pc L (v :: S))) := by
  obtain ⟨locs, X, eT, N, hx, hby, hml, hZ, hown, hnm, hret, hlk, hn⟩ := H
  subst hp
  exact oG.go (fun t hr => XS.astore X.here hx rfl (hb hby hd) rfl hv hl hr) k
theorem o_istore (H : oH p l e R s m args below meth c bc ml y rt Z n0 T h cells slots) {k : Nat} {v : Int32} (hl : storeLocals L k (.int v) = some L') (hd : decode bc pc = .ok (.istore k, 2)) (hp : pc + 2 = pc') (k : oG p e below s n0 kc ks Q (T.setTop (mkF m pc' L' S))) : oG p e below s n0 kc ks Q (T.setTop (mkF m pc L (.int v :: S))) := by
  obtain ⟨locs, X, eT, N, hx, hby, hml, hZ, hown, hnm, hret, hlk, hn⟩ := H
  subst hp
  exact oG.go (fun t hr => XS.istore X.here hx rfl (hb hby hd) rfl hl hr) k
theorem o_lstore (H : oH p l e R s m args below meth c bc ml y rt Z n0 T h cells slots) {k : Nat} {v : Int64} (hl : storeLocals L k (.long v) = some L') (hd : decode bc pc = .ok (.lstore k, 2)) (hp : pc + 2 = pc') (k : oG p e below s n0 kc ks Q (T.setTop (mkF m pc' L' S))) : oG p e below s n0 kc ks Q (T.setTop (mkF m pc L (.long v :: S))) := by
  obtain ⟨locs, X, eT, N, hx, hby, hml, hZ, hown, hnm, hret, hlk, hn⟩ := H
  subst hp
  exact oG.go (fun t hr => XT.lstore X.here hx rfl (hb hby hd) rfl hl hr) k
theorem o_iconst (H : oH p l e R s m args below meth c bc ml y rt Z n0 T h cells slots) {i : Int} (v : Int32) (hv : Int32.ofInt i = v) (hd : decode bc pc = .ok (.iconst i, 1)) (hp : pc + 1 = pc') (k : oG p e below s n0 kc ks Q (T.setTop (mkF m pc' L (.int v :: S)))) : oG p e below s n0 kc ks Q (T.setTop (mkF m pc L S)) := by
  obtain ⟨locs, X, eT, N, hx, hby, hml, hZ, hown, hnm, hret, hlk, hn⟩ := H
  subst hp
  exact oG.go (fun t hr => XT.iconstV X.here hx rfl v (hb hby hd) hv hr) k
theorem o_bipush (H : oH p l e R s m args below meth c bc ml y rt Z n0 T h cells slots) {i : Int} (v : Int32) (hv : (Int8.ofInt i).toInt32 = v) (hd : decode bc pc = .ok (.bipush i, 2)) (hp : pc + 2 = pc') (k : oG p e below s n0 kc ks Q (T.setTop (mkF m pc' L (.int v :: S)))) : oG p e below s n0 kc ks Q (T.setTop (mkF m pc L S)) := by
  obtain ⟨locs, X, eT, N, hx, hby, hml, hZ, hown, hnm, hret, hlk, hn⟩ := H
  subst hp
  exact oG.go (fun t hr => XT.bipushV X.here hx rfl v (hb hby hd) hv hr) k
theorem o_sipush (H : oH p l e R s m args below meth c bc ml y rt Z n0 T h cells slots) {i : Int} (v : Int32) (hv : (Int16.ofInt i).toInt32 = v) (hd : decode bc pc = .ok (.sipush i, 3)) (hp : pc + 3 = pc') (k : oG p e below s n0 kc ks Q (T.setTop (mkF m pc' L (.int v :: S)))) : oG p e below s n0 kc ks Q (T.setTop (mkF m pc L S)) := by
  obtain ⟨locs, X, eT, N, hx, hby, hml, hZ, hown, hnm, hret, hlk, hn⟩ := H
  subst hp
  exact oG.go (fun t hr => XT.sipushV X.here hx rfl v (hb hby hd) hv hr) k
theorem o_lconst (H : oH p l e R s m args below meth c bc ml y rt Z n0 T h cells slots) {i : Fin 2} (v : Int64) (hv : Int64.ofNat i = v) (hd : decode bc pc = .ok (.lconst i, 1)) (hp : pc + 1 = pc') (k : oG p e below s n0 kc ks Q (T.setTop (mkF m pc' L (.long v :: S)))) : oG p e below s n0 kc ks Q (T.setTop (mkF m pc L S)) := by
  obtain ⟨locs, X, eT, N, hx, hby, hml, hZ, hown, hnm, hret, hlk, hn⟩ := H
  subst hp
  exact oG.go (fun t hr => XT.lconstV X.here hx rfl v (hb hby hd) hv hr) k
theorem o_aconst_null (H : oH p l e R s m args below meth c bc ml y rt Z n0 T h cells slots)   (hd : decode bc pc = .ok (.aconst_null, 1)) (hp : pc + 1 = pc') (k : oG p e below s n0 kc ks Q (T.setTop (mkF m pc' L (.null :: S)))) : oG p e below s n0 kc ks Q (T.setTop (mkF m pc L S)) := by
  obtain ⟨locs, X, eT, N, hx, hby, hml, hZ, hown, hnm, hret, hlk, hn⟩ := H
  subst hp
  exact oG.go (fun t hr => XS.aconstNull X.here hx rfl (hb hby hd) hr) k
theorem o_iadd (H : oH p l e R s m args below meth c bc ml y rt Z n0 T h cells slots) {x z : Int32}  (hd : decode bc pc = .ok (.iadd, 1)) (hp : pc + 1 = pc') (k : oG p e below s n0 kc ks Q (T.setTop (mkF m pc' L (.int (x + z) :: S)))) : oG p e below s n0 kc ks Q (T.setTop (mkF m pc L (.int z :: .int x :: S))) := by
  obtain ⟨locs, X, eT, N, hx, hby, hml, hZ, hown, hnm, hret, hlk, hn⟩ := H
  subst hp
  exact oG.go (fun t hr => XS.iadd X.here hx rfl (hb hby hd) rfl hr) k
theorem o_isub (H : oH p l e R s m args below meth c bc ml y rt Z n0 T h cells slots) {x z : Int32}  (hd : decode bc pc = .ok (.isub, 1)) (hp : pc + 1 = pc') (k : oG p e below s n0 kc ks Q (T.setTop (mkF m pc' L (.int (x - z) :: S)))) : oG p e below s n0 kc ks Q (T.setTop (mkF m pc L (.int z :: .int x :: S))) := by
  obtain ⟨locs, X, eT, N, hx, hby, hml, hZ, hown, hnm, hret, hlk, hn⟩ := H
  subst hp
  exact oG.go (fun t hr => XS.isub X.here hx rfl (hb hby hd) rfl hr) k
theorem o_imul (H : oH p l e R s m args below meth c bc ml y rt Z n0 T h cells slots) {x z : Int32}  (hd : decode bc pc = .ok (.imul, 1)) (hp : pc + 1 = pc') (k : oG p e below s n0 kc ks Q (T.setTop (mkF m pc' L (.int (x * z) :: S)))) : oG p e below s n0 kc ks Q (T.setTop (mkF m pc L (.int z :: .int x :: S))) := by
  obtain ⟨locs, X, eT, N, hx, hby, hml, hZ, hown, hnm, hret, hlk, hn⟩ := H
  subst hp
  exact oG.go (fun t hr => XS.imul X.here hx rfl (hb hby hd) rfl hr) k
theorem o_iand (H : oH p l e R s m args below meth c bc ml y rt Z n0 T h cells slots) {x z : Int32}  (hd : decode bc pc = .ok (.iand, 1)) (hp : pc + 1 = pc') (k : oG p e below s n0 kc ks Q (T.setTop (mkF m pc' L (.int (x &&& z) :: S)))) : oG p e below s n0 kc ks Q (T.setTop (mkF m pc L (.int z :: .int x :: S))) := by
  obtain ⟨locs, X, eT, N, hx, hby, hml, hZ, hown, hnm, hret, hlk, hn⟩ := H
  subst hp
  exact oG.go (fun t hr => XS.iand X.here hx rfl (hb hby hd) rfl hr) k
theorem o_ior (H : oH p l e R s m args below meth c bc ml y rt Z n0 T h cells slots) {x z : Int32}  (hd : decode bc pc = .ok (.ior, 1)) (hp : pc + 1 = pc') (k : oG p e below s n0 kc ks Q (T.setTop (mkF m pc' L (.int (x ||| z) :: S)))) : oG p e below s n0 kc ks Q (T.setTop (mkF m pc L (.int z :: .int x :: S))) := by
  obtain ⟨locs, X, eT, N, hx, hby, hml, hZ, hown, hnm, hret, hlk, hn⟩ := H
  subst hp
  exact oG.go (fun t hr => XT.ior X.here hx rfl (hb hby hd) rfl hr) k
theorem o_ixor (H : oH p l e R s m args below meth c bc ml y rt Z n0 T h cells slots) {x z : Int32}  (hd : decode bc pc = .ok (.ixor, 1)) (hp : pc + 1 = pc') (k : oG p e below s n0 kc ks Q (T.setTop (mkF m pc' L (.int (x ^^^ z) :: S)))) : oG p e below s n0 kc ks Q (T.setTop (mkF m pc L (.int z :: .int x :: S))) := by
  obtain ⟨locs, X, eT, N, hx, hby, hml, hZ, hown, hnm, hret, hlk, hn⟩ := H
  subst hp
  exact oG.go (fun t hr => XT.ixor X.here hx rfl (hb hby hd) rfl hr) k
theorem o_ishl (H : oH p l e R s m args below meth c bc ml y rt Z n0 T h cells slots) {x z : Int32}  (hd : decode bc pc = .ok (.ishl, 1)) (hp : pc + 1 = pc') (k : oG p e below s n0 kc ks Q (T.setTop (mkF m pc' L (.int (x <<< (z &&& 31)) :: S)))) : oG p e below s n0 kc ks Q (T.setTop (mkF m pc L (.int z :: .int x :: S))) := by
  obtain ⟨locs, X, eT, N, hx, hby, hml, hZ, hown, hnm, hret, hlk, hn⟩ := H
  subst hp
  exact oG.go (fun t hr => XT.ishl X.here hx rfl (hb hby hd) rfl hr) k
theorem o_ishr (H : oH p l e R s m args below meth c bc ml y rt Z n0 T h cells slots) {x z : Int32}  (hd : decode bc pc = .ok (.ishr, 1)) (hp : pc + 1 = pc') (k : oG p e below s n0 kc ks Q (T.setTop (mkF m pc' L (.int (x >>> (z &&& 31)) :: S)))) : oG p e below s n0 kc ks Q (T.setTop (mkF m pc L (.int z :: .int x :: S))) := by
  obtain ⟨locs, X, eT, N, hx, hby, hml, hZ, hown, hnm, hret, hlk, hn⟩ := H
  subst hp
  exact oG.go (fun t hr => XT.ishr X.here hx rfl (hb hby hd) rfl hr) k
theorem o_iushr (H : oH p l e R s m args below meth c bc ml y rt Z n0 T h cells slots) {x z : Int32}  (hd : decode bc pc = .ok (.iushr, 1)) (hp : pc + 1 = pc') (k : oG p e below s n0 kc ks Q (T.setTop (mkF m pc' L (.int (XT.ushr x z) :: S)))) : oG p e below s n0 kc ks Q (T.setTop (mkF m pc L (.int z :: .int x :: S))) := by
  obtain ⟨locs, X, eT, N, hx, hby, hml, hZ, hown, hnm, hret, hlk, hn⟩ := H
  subst hp
  exact oG.go (fun t hr => XT.iushr X.here hx rfl (hb hby hd) rfl hr) k
theorem o_ladd (H : oH p l e R s m args below meth c bc ml y rt Z n0 T h cells slots) {x z : Int64}  (hd : decode bc pc = .ok (.ladd, 1)) (hp : pc + 1 = pc') (k : oG p e below s n0 kc ks Q (T.setTop (mkF m pc' L (.long (x + z) :: S)))) : oG p e below s n0 kc ks Q (T.setTop (mkF m pc L (.long z :: .long x :: S))) := by
  obtain ⟨locs, X, eT, N, hx, hby, hml, hZ, hown, hnm, hret, hlk, hn⟩ := H
  subst hp
  exact oG.go (fun t hr => XT.ladd X.here hx rfl (hb hby hd) rfl hr) k
theorem o_lsub (H : oH p l e R s m args below meth c bc ml y rt Z n0 T h cells slots) {x z : Int64}  (hd : decode bc pc = .ok (.lsub, 1)) (hp : pc + 1 = pc') (k : oG p e below s n0 kc ks Q (T.setTop (mkF m pc' L (.long (x - z) :: S)))) : oG p e below s n0 kc ks Q (T.setTop (mkF m pc L (.long z :: .long x :: S))) := by
  obtain ⟨locs, X, eT, N, hx, hby, hml, hZ, hown, hnm, hret, hlk, hn⟩ := H
  subst hp
  exact oG.go (fun t hr => XT.lsub X.here hx rfl (hb hby hd) rfl hr) k
theorem o_lmul (H : oH p l e R s m args below meth c bc ml y rt Z n0 T h cells slots) {x z : Int64}  (hd : decode bc pc = .ok (.lmul, 1)) (hp : pc + 1 = pc') (k : oG p e below s n0 kc ks Q (T.setTop (mkF m pc' L (.long (x * z) :: S)))) : oG p e below s n0 kc ks Q (T.setTop (mkF m pc L (.long z :: .long x :: S))) := by
  obtain ⟨locs, X, eT, N, hx, hby, hml, hZ, hown, hnm, hret, hlk, hn⟩ := H
  subst hp
  exact oG.go (fun t hr => XT.lmul X.here hx rfl (hb hby hd) rfl hr) k
theorem o_land (H : oH p l e R s m args below meth c bc ml y rt Z n0 T h cells slots) {x z : Int64}  (hd : decode bc pc = .ok (.land, 1)) (hp : pc + 1 = pc') (k : oG p e below s n0 kc ks Q (T.setTop (mkF m pc' L (.long (x &&& z) :: S)))) : oG p e below s n0 kc ks Q (T.setTop (mkF m pc L (.long z :: .long x :: S))) := by
  obtain ⟨locs, X, eT, N, hx, hby, hml, hZ, hown, hnm, hret, hlk, hn⟩ := H
  subst hp
  exact oG.go (fun t hr => XT.land X.here hx rfl (hb hby hd) rfl hr) k
theorem o_lor (H : oH p l e R s m args below meth c bc ml y rt Z n0 T h cells slots) {x z : Int64}  (hd : decode bc pc = .ok (.lor, 1)) (hp : pc + 1 = pc') (k : oG p e below s n0 kc ks Q (T.setTop (mkF m pc' L (.long (x ||| z) :: S)))) : oG p e below s n0 kc ks Q (T.setTop (mkF m pc L (.long z :: .long x :: S))) := by
  obtain ⟨locs, X, eT, N, hx, hby, hml, hZ, hown, hnm, hret, hlk, hn⟩ := H
  subst hp
  exact oG.go (fun t hr => XT.lor X.here hx rfl (hb hby hd) rfl hr) k
theorem o_lxor (H : oH p l e R s m args below meth c bc ml y rt Z n0 T h cells slots) {x z : Int64}  (hd : decode bc pc = .ok (.lxor, 1)) (hp : pc + 1 = pc') (k : oG p e below s n0 kc ks Q (T.setTop (mkF m pc' L (.long (x ^^^ z) :: S)))) : oG p e below s n0 kc ks Q (T.setTop (mkF m pc L (.long z :: .long x :: S))) := by
  obtain ⟨locs, X, eT, N, hx, hby, hml, hZ, hown, hnm, hret, hlk, hn⟩ := H
  subst hp
  exact oG.go (fun t hr => XT.lxor X.here hx rfl (hb hby hd) rfl hr) k
theorem o_lcmp (H : oH p l e R s m args below meth c bc ml y rt Z n0 T h cells slots) {x z : Int64}  (hd : decode bc pc = .ok (.lcmp, 1)) (hp : pc + 1 = pc') (k : oG p e below s n0 kc ks Q (T.setTop (mkF m pc' L (.int (XT.cmpL x z) :: S)))) : oG p e below s n0 kc ks Q (T.setTop (mkF m pc L (.long z :: .long x :: S))) := by
  obtain ⟨locs, X, eT, N, hx, hby, hml, hZ, hown, hnm, hret, hlk, hn⟩ := H
  subst hp
  exact oG.go (fun t hr => XT.lcmp X.here hx rfl (hb hby hd) rfl hr) k
theorem o_lshl (H : oH p l e R s m args below meth c bc ml y rt Z n0 T h cells slots) {x : Int64} {z : Int32}  (hd : decode bc pc = .ok (.lshl, 1)) (hp : pc + 1 = pc') (k : oG p e below s n0 kc ks Q (T.setTop (mkF m pc' L (.long (x <<< (z.toInt64 &&& 63)) :: S)))) : oG p e below s n0 kc ks Q (T.setTop (mkF m pc L (.int z :: .long x :: S))) := by
  obtain ⟨locs, X, eT, N, hx, hby, hml, hZ, hown, hnm, hret, hlk, hn⟩ := H
  subst hp
  exact oG.go (fun t hr => XT.lshl X.here hx rfl (hb hby hd) rfl hr) k
theorem o_lshr (H : oH p l e R s m args below meth c bc ml y rt Z n0 T h cells slots) {x : Int64} {z : Int32}  (hd : decode bc pc = .ok (.lshr, 1)) (hp : pc + 1 = pc') (k : oG p e below s n0 kc ks Q (T.setTop (mkF m pc' L (.long (x >>> (z.toInt64 &&& 63)) :: S)))) : oG p e below s n0 kc ks Q (T.setTop (mkF m pc L (.int z :: .long x :: S))) := by
  obtain ⟨locs, X, eT, N, hx, hby, hml, hZ, hown, hnm, hret, hlk, hn⟩ := H
  subst hp
  exact oG.go (fun t hr => XT.lshr X.here hx rfl (hb hby hd) rfl hr) k
theorem o_lushr (H : oH p l e R s m args below meth c bc ml y rt Z n0 T h cells slots) {x : Int64} {z : Int32}  (hd : decode bc pc = .ok (.lushr, 1)) (hp : pc + 1 = pc') (k : oG p e below s n0 kc ks Q (T.setTop (mkF m pc' L (.long (XT.ushrL x z) :: S)))) : oG p e below s n0 kc ks Q (T.setTop (mkF m pc L (.int z :: .long x :: S))) := by
  obtain ⟨locs, X, eT, N, hx, hby, hml, hZ, hown, hnm, hret, hlk, hn⟩ := H
  subst hp
  exact oG.go (fun t hr => XT.lushr X.here hx rfl (hb hby hd) rfl hr) k
theorem o_idiv (H : oH p l e R s m args below meth c bc ml y rt Z n0 T h cells slots) {x z : Int32} (hz : z ≠ 0) (hd : decode bc pc = .ok (.idiv, 1)) (hp : pc + 1 = pc') (k : oG p e below s n0 kc ks Q (T.setTop (mkF m pc' L (.int (x / z) :: S)))) : oG p e below s n0 kc ks Q (T.setTop (mkF m pc L (.int z :: .int x :: S))) := by
  obtain ⟨locs, X, eT, N, hx, hby, hml, hZ, hown, hnm, hret, hlk, hn⟩ := H
  subst hp
  exact oG.go (fun t hr => XS.idiv X.here hx rfl (hb hby hd) rfl hz hr) k
theorem o_irem (H : oH p l e R s m args below meth c bc ml y rt Z n0 T h cells slots) {x z : Int32} (hz : z ≠ 0) (hd : decode bc pc = .ok (.irem, 1)) (hp : pc + 1 = pc') (k : oG p e below s n0 kc ks Q (T.setTop (mkF m pc' L (.int (x % z) :: S)))) : oG p e below s n0 kc ks Q (T.setTop (mkF m pc L (.int z :: .int x :: S))) := by
  obtain ⟨locs, X, eT, N, hx, hby, hml, hZ, hown, hnm, hret, hlk, hn⟩ := H
  subst hp
  exact oG.go (fun t hr => iremM X hx rfl (hb hby hd) rfl hz hr) k
theorem o_ineg (H : oH p l e R s m args below meth c bc ml y rt Z n0 T h cells slots) {x : Int32}  (hd : decode bc pc = .ok (.ineg, 1)) (hp : pc + 1 = pc') (k : oG p e below s n0 kc ks Q (T.setTop (mkF m pc' L (.int (-x) :: S)))) : oG p e below s n0 kc ks Q (T.setTop (mkF m pc L (.int x :: S))) := by
  obtain ⟨locs, X, eT, N, hx, hby, hml, hZ, hown, hnm, hret, hlk, hn⟩ := H
  subst hp
  exact oG.go (fun t hr => XS.ineg X.here hx rfl (hb hby hd) rfl hr) k
theorem o_lneg (H : oH p l e R s m args below meth c bc ml y rt Z n0 T h cells slots) {x : Int64}  (hd : decode bc pc = .ok (.lneg, 1)) (hp : pc + 1 = pc') (k : oG p e below s n0 kc ks Q (T.setTop (mkF m pc' L (.long (-x) :: S)))) : oG p e below s n0 kc ks Q (T.setTop (mkF m pc L (.long x :: S))) := by
  obtain ⟨locs, X, eT, N, hx, hby, hml, hZ, hown, hnm, hret, hlk, hn⟩ := H
  subst hp
  exact oG.go (fun t hr => XT.lneg X.here hx rfl (hb hby hd) rfl hr) k
theorem o_i2l (H : oH p l e R s m args below meth c bc ml y rt Z n0 T h cells slots) {x : Int32}  (hd : decode bc pc = .ok (.i2l, 1)) (hp : pc + 1 = pc') (k : oG p e below s n0 kc ks Q (T.setTop (mkF m pc' L (.long x.toInt64 :: S)))) : oG p e below s n0 kc ks Q (T.setTop (mkF m pc L (.int x :: S))) := by
  obtain ⟨locs, X, eT, N, hx, hby, hml, hZ, hown, hnm, hret, hlk, hn⟩ := H
  subst hp
  exact oG.go (fun t hr => XT.i2l X.here hx rfl (hb hby hd) rfl hr) k
theorem o_l2i (H : oH p l e R s m args below meth c bc ml y rt Z n0 T h cells slots) {x : Int64}  (hd : decode bc pc = .ok (.l2i, 1)) (hp : pc + 1 = pc') (k : oG p e below s n0 kc ks Q (T.setTop (mkF m pc' L (.int x.toInt32 :: S)))) : oG p e below s n0 kc ks Q (T.setTop (mkF m pc L (.long x :: S))) := by
  obtain ⟨locs, X, eT, N, hx, hby, hml, hZ, hown, hnm, hret, hlk, hn⟩ := H
  subst hp
  exact oG.go (fun t hr => XT.l2i X.here hx rfl (hb hby hd) rfl hr) k
theorem o_i2b (H : oH p l e R s m args below meth c bc ml y rt Z n0 T h cells slots) {x : Int32}  (hd : decode bc pc = .ok (.i2b, 1)) (hp : pc + 1 = pc') (k : oG p e below s n0 kc ks Q (T.setTop (mkF m pc' L (.int x.toInt8.toInt32 :: S)))) : oG p e below s n0 kc ks Q (T.setTop (mkF m pc L (.int x :: S))) := by
  obtain ⟨locs, X, eT, N, hx, hby, hml, hZ, hown, hnm, hret, hlk, hn⟩ := H
  subst hp
  exact oG.go (fun t hr => XT.i2b X.here hx rfl (hb hby hd) rfl hr) k
theorem o_i2c (H : oH p l e R s m args below meth c bc ml y rt Z n0 T h cells slots) {x : Int32}  (hd : decode bc pc = .ok (.i2c, 1)) (hp : pc + 1 = pc') (k : oG p e below s n0 kc ks Q (T.setTop (mkF m pc' L (.int x.toUInt32.toUInt16.toUInt32.toInt32 :: S)))) : oG p e below s n0 kc ks Q (T.setTop (mkF m pc L (.int x :: S))) := by
  obtain ⟨locs, X, eT, N, hx, hby, hml, hZ, hown, hnm, hret, hlk, hn⟩ := H
  subst hp
  exact oG.go (fun t hr => XT.i2c X.here hx rfl (hb hby hd) rfl hr) k
theorem o_i2s (H : oH p l e R s m args below meth c bc ml y rt Z n0 T h cells slots) {x : Int32}  (hd : decode bc pc = .ok (.i2s, 1)) (hp : pc + 1 = pc') (k : oG p e below s n0 kc ks Q (T.setTop (mkF m pc' L (.int x.toInt16.toInt32 :: S)))) : oG p e below s n0 kc ks Q (T.setTop (mkF m pc L (.int x :: S))) := by
  obtain ⟨locs, X, eT, N, hx, hby, hml, hZ, hown, hnm, hret, hlk, hn⟩ := H
  subst hp
  exact oG.go (fun t hr => XT.i2s X.here hx rfl (hb hby hd) rfl hr) k
theorem o_iinc (H : oH p l e R s m args below meth c bc ml y rt Z n0 T h cells slots) {j : Nat} {cst : Int} {x : Int32} (v u : Int32) (hv : Int32.ofInt cst = v) (hu : x + v = u) (hl : L[j]? = some (.val (.int x))) (hl' : storeLocals L j (.int u) = some L') (hd : decode bc pc = .ok (.iinc j cst, 3)) (hp : pc + 3 = pc') (k : oG p e below s n0 kc ks Q (T.setTop (mkF m pc' L' S))) : oG p e below s n0 kc ks Q (T.setTop (mkF m pc L S)) := by
  obtain ⟨locs, X, eT, N, hx, hby, hml, hZ, hown, hnm, hret, hlk, hn⟩ := H
  subst hp
  exact oG.go (fun t hr => XT.iincV X.here hx rfl v (hb hby hd) hv hl (hu ▸ hl') hr) k
theorem o_fold {x : Int32} (v : Int32) (hv : x = v) (k : oG p e below s n0 kc ks Q (T.setTop (mkF m pc L (.int v :: S)))) : oG p e below s n0 kc ks Q (T.setTop (mkF m pc L (.int x :: S))) := hv ▸ k
theorem o_foldJ {x : Int64} (v : Int64) (hv : x = v) (k : oG p e below s n0 kc ks Q (T.setTop (mkF m pc L (.long v :: S)))) : oG p e below s n0 kc ks Q (T.setTop (mkF m pc L (.long x :: S))) := hv ▸ k
theorem o_dup (H : oH p l e R s m args below meth c bc ml y rt Z n0 T h cells slots) {v : Value} (hc : v.category = 1) (hd : decode bc pc = .ok (.dup, 1)) (hp : pc + 1 = pc') (k : oG p e below s n0 kc ks Q (T.setTop (mkF m pc' L (v :: v :: S)))) : oG p e below s n0 kc ks Q (T.setTop (mkF m pc L (v :: S))) := by
  obtain ⟨locs, X, eT, N, hx, hby, hml, hZ, hown, hnm, hret, hlk, hn⟩ := H
  subst hp
  exact oG.go (fun t hr => XS.dup X.here hx rfl (hb hby hd) rfl hc hr) k
theorem o_dup_x1 (H : oH p l e R s m args below meth c bc ml y rt Z n0 T h cells slots) {v w : Value} (hc : v.category = 1) (hc' : w.category = 1) (hd : decode bc pc = .ok (.dup_x1, 1)) (hp : pc + 1 = pc') (k : oG p e below s n0 kc ks Q (T.setTop (mkF m pc' L (v :: w :: v :: S)))) : oG p e below s n0 kc ks Q (T.setTop (mkF m pc L (v :: w :: S))) := by
  obtain ⟨locs, X, eT, N, hx, hby, hml, hZ, hown, hnm, hret, hlk, hn⟩ := H
  subst hp
  exact oG.go (fun t hr => XT.dupX1 X.here hx rfl (hb hby hd) rfl hc hc' hr) k
theorem o_dup2 (H : oH p l e R s m args below meth c bc ml y rt Z n0 T h cells slots) {v w : Value} (hc : v.category = 1) (hc' : w.category = 1) (hd : decode bc pc = .ok (.dup2, 1)) (hp : pc + 1 = pc') (k : oG p e below s n0 kc ks Q (T.setTop (mkF m pc' L (v :: w :: v :: w :: S)))) : oG p e below s n0 kc ks Q (T.setTop (mkF m pc L (v :: w :: S))) := by
  obtain ⟨locs, X, eT, N, hx, hby, hml, hZ, hown, hnm, hret, hlk, hn⟩ := H
  subst hp
  exact oG.go (fun t hr => XT.dup2 X.here hx rfl (hb hby hd) rfl hc hc' hr) k
theorem o_dup2L (H : oH p l e R s m args below meth c bc ml y rt Z n0 T h cells slots) {v : Int64}  (hd : decode bc pc = .ok (.dup2, 1)) (hp : pc + 1 = pc') (k : oG p e below s n0 kc ks Q (T.setTop (mkF m pc' L (.long v :: .long v :: S)))) : oG p e below s n0 kc ks Q (T.setTop (mkF m pc L (.long v :: S))) := by
  obtain ⟨locs, X, eT, N, hx, hby, hml, hZ, hown, hnm, hret, hlk, hn⟩ := H
  subst hp
  exact oG.go (fun t hr => XT.dup2L X.here hx rfl (hb hby hd) rfl hr) k
theorem o_pop (H : oH p l e R s m args below meth c bc ml y rt Z n0 T h cells slots) {v : Value} (hc : v.category = 1) (hd : decode bc pc = .ok (.pop, 1)) (hp : pc + 1 = pc') (k : oG p e below s n0 kc ks Q (T.setTop (mkF m pc' L S))) : oG p e below s n0 kc ks Q (T.setTop (mkF m pc L (v :: S))) := by
  obtain ⟨locs, X, eT, N, hx, hby, hml, hZ, hown, hnm, hret, hlk, hn⟩ := H
  subst hp
  exact oG.go (fun t hr => XT.pop X.here hx rfl (hb hby hd) rfl hc hr) k
theorem o_one {i : Nat} {v : Value} {sl : Slot} (hs : L[i]? = some sl) (h1 : sl = .unset ∨ ∃ z, sl = .val (.int z)) (hv : v.category = 1) : storeLocals L i v = some (L.setIfInBounds i (.val v)) :=
  XS.store1 hs (h1.imp id fun ⟨z, q⟩ => ⟨.int z, q, rfl⟩) hv
theorem o_len {vs : List Int32} : (vs.map Value.int).length.toInt32 = Int32.ofNat vs.length := by rw [List.length_map]
theorem o_get {vs : List Int32} {i : Nat} (h : i < vs.length) : (vs.map Value.int)[i]? = some (.int (vs[i]'h)) := by simp [h]
theorem o_ofNat {n : Nat} (h : n < 2147483648) : (Int32.ofNat n).toInt = n := Int32.toInt_ofNat_of_lt (by omega)
theorem o_lenJ {vs : List Int64} : (vs.map Value.long).length.toInt32 = Int32.ofNat vs.length := by rw [List.length_map]
theorem o_getJ {vs : List Int64} {i : Nat} (h : i < vs.length) : (vs.map Value.long)[i]? = some (.long (vs[i]'h)) := by simp [h]
theorem o_succ {n : Nat} : Int32.ofNat n + 1 = Int32.ofNat (n + 1) := (Int32.ofNat_add n 1).symm
theorem o_bt {A : Prop} [Decidable A] {b : Int32} (e : b = if A then (1 : Int32) else 0) (q : ¬ b = 0) : A := by
  by_cases a : A
  · exact a
  · rw [if_neg a] at e; exact absurd e q
theorem o_bf {A : Prop} [Decidable A] {b : Int32} (e : b = if A then (1 : Int32) else 0) (q : b = 0) : ¬ A := by
  intro a
  exact absurd ((e.trans (if_pos a)).symm.trans q) (by decide)
theorem o_goto (H : oH p l e R s m args below meth c bc ml y rt Z n0 T h cells slots) {o : Int} (hd : decode bc pc = .ok (.goto o, 3)) (ho : 0 ≤ (pc : Int) + o) (hp : ((pc : Int) + o).toNat = pt) (k : oG p e below s n0 kc ks Q (T.setTop (mkF m pt L S))) : oG p e below s n0 kc ks Q (T.setTop (mkF m pc L S)) := by
  obtain ⟨locs, X, eT, N, hx, hby, hml, hZ, hown, hnm, hret, hlk, hn⟩ := H
  exact oG.go (fun t hr => XS.goto X.here hx rfl rfl (hb hby hd) ho hp hr) k
theorem o_icmp_eq (H : oH p l e R s m args below meth c bc ml y rt Z n0 T h cells slots) {o : Int} {x z : Int32} (hd : decode bc pc = .ok (.if_icmp .eq o, 3)) (ho : 0 ≤ (pc : Int) + o) (hp : ((pc : Int) + o).toNat = pt) (hp' : pc + 3 = pc') (kt : x = z → oG p e below s n0 kc ks Q (T.setTop (mkF m pt L S))) (kf : ¬ x = z → oG p e below s n0 kc ks Q (T.setTop (mkF m pc' L S))) : oG p e below s n0 kc ks Q (T.setTop (mkF m pc L (.int z :: .int x :: S))) := by
  by_cases q : x = z
  · have k := kt q
    obtain ⟨locs, X, eT, N, hx, hby, hml, hZ, hown, hnm, hret, hlk, hn⟩ := H
    exact oG.go (fun t hr => XS.icmpYes X.here hx rfl rfl (hb hby hd) rfl (XT.ii_eq_t q) ho hp hr) k
  · have k := kf q
    obtain ⟨locs, X, eT, N, hx, hby, hml, hZ, hown, hnm, hret, hlk, hn⟩ := H
    subst hp'
    exact oG.go (fun t hr => XS.icmpNo X.here hx rfl (hb hby hd) rfl (XT.ii_eq_f q) hr) k
theorem o_if_eq (H : oH p l e R s m args below meth c bc ml y rt Z n0 T h cells slots) {o : Int} {x : Int32} (hd : decode bc pc = .ok (.ifCond .eq o, 3)) (ho : 0 ≤ (pc : Int) + o) (hp : ((pc : Int) + o).toNat = pt) (hp' : pc + 3 = pc') (kt : x = 0 → oG p e below s n0 kc ks Q (T.setTop (mkF m pt L S))) (kf : ¬ x = 0 → oG p e below s n0 kc ks Q (T.setTop (mkF m pc' L S))) : oG p e below s n0 kc ks Q (T.setTop (mkF m pc L (.int x :: S))) := by
  by_cases q : x = 0
  · have k := kt q
    obtain ⟨locs, X, eT, N, hx, hby, hml, hZ, hown, hnm, hret, hlk, hn⟩ := H
    exact oG.go (fun t hr => XS.ifYes X.here hx rfl rfl (hb hby hd) rfl (XT.i0_eq_t q) ho hp hr) k
  · have k := kf q
    obtain ⟨locs, X, eT, N, hx, hby, hml, hZ, hown, hnm, hret, hlk, hn⟩ := H
    subst hp'
    exact oG.go (fun t hr => XS.ifNo X.here hx rfl (hb hby hd) rfl (XT.i0_eq_f q) hr) k
theorem o_ifl_eq (H : oH p l e R s m args below meth c bc ml y rt Z n0 T h cells slots) {o : Int} {x z : Int64} (hd : decode bc pc = .ok (.ifCond .eq o, 3)) (ho : 0 ≤ (pc : Int) + o) (hp : ((pc : Int) + o).toNat = pt) (hp' : pc + 3 = pc') (kt : x = z → oG p e below s n0 kc ks Q (T.setTop (mkF m pt L S))) (kf : ¬ x = z → oG p e below s n0 kc ks Q (T.setTop (mkF m pc' L S))) : oG p e below s n0 kc ks Q (T.setTop (mkF m pc L (.int (XT.cmpL x z) :: S))) := by
  by_cases q : x = z
  · have k := kt q
    obtain ⟨locs, X, eT, N, hx, hby, hml, hZ, hown, hnm, hret, hlk, hn⟩ := H
    exact oG.go (fun t hr => XS.ifYes X.here hx rfl rfl (hb hby hd) rfl (XT.ll_eq_t q) ho hp hr) k
  · have k := kf q
    obtain ⟨locs, X, eT, N, hx, hby, hml, hZ, hown, hnm, hret, hlk, hn⟩ := H
    subst hp'
    exact oG.go (fun t hr => XS.ifNo X.here hx rfl (hb hby hd) rfl (XT.ll_eq_f q) hr) k
theorem o_icmp_ne (H : oH p l e R s m args below meth c bc ml y rt Z n0 T h cells slots) {o : Int} {x z : Int32} (hd : decode bc pc = .ok (.if_icmp .ne o, 3)) (ho : 0 ≤ (pc : Int) + o) (hp : ((pc : Int) + o).toNat = pt) (hp' : pc + 3 = pc') (kt : ¬ x = z → oG p e below s n0 kc ks Q (T.setTop (mkF m pt L S))) (kf : x = z → oG p e below s n0 kc ks Q (T.setTop (mkF m pc' L S))) : oG p e below s n0 kc ks Q (T.setTop (mkF m pc L (.int z :: .int x :: S))) := by
  by_cases q : ¬ x = z
  · have k := kt q
    obtain ⟨locs, X, eT, N, hx, hby, hml, hZ, hown, hnm, hret, hlk, hn⟩ := H
    exact oG.go (fun t hr => XS.icmpYes X.here hx rfl rfl (hb hby hd) rfl (XT.ii_ne_t q) ho hp hr) k
  · have k := kf (Classical.not_not.mp q)
    obtain ⟨locs, X, eT, N, hx, hby, hml, hZ, hown, hnm, hret, hlk, hn⟩ := H
    subst hp'
    exact oG.go (fun t hr => XS.icmpNo X.here hx rfl (hb hby hd) rfl (XT.ii_ne_f (Classical.not_not.mp q)) hr) k
theorem o_if_ne (H : oH p l e R s m args below meth c bc ml y rt Z n0 T h cells slots) {o : Int} {x : Int32} (hd : decode bc pc = .ok (.ifCond .ne o, 3)) (ho : 0 ≤ (pc : Int) + o) (hp : ((pc : Int) + o).toNat = pt) (hp' : pc + 3 = pc') (kt : ¬ x = 0 → oG p e below s n0 kc ks Q (T.setTop (mkF m pt L S))) (kf : x = 0 → oG p e below s n0 kc ks Q (T.setTop (mkF m pc' L S))) : oG p e below s n0 kc ks Q (T.setTop (mkF m pc L (.int x :: S))) := by
  by_cases q : ¬ x = 0
  · have k := kt q
    obtain ⟨locs, X, eT, N, hx, hby, hml, hZ, hown, hnm, hret, hlk, hn⟩ := H
    exact oG.go (fun t hr => XS.ifYes X.here hx rfl rfl (hb hby hd) rfl (XT.i0_ne_t q) ho hp hr) k
  · have k := kf (Classical.not_not.mp q)
    obtain ⟨locs, X, eT, N, hx, hby, hml, hZ, hown, hnm, hret, hlk, hn⟩ := H
    subst hp'
    exact oG.go (fun t hr => XS.ifNo X.here hx rfl (hb hby hd) rfl (XT.i0_ne_f (Classical.not_not.mp q)) hr) k
theorem o_ifl_ne (H : oH p l e R s m args below meth c bc ml y rt Z n0 T h cells slots) {o : Int} {x z : Int64} (hd : decode bc pc = .ok (.ifCond .ne o, 3)) (ho : 0 ≤ (pc : Int) + o) (hp : ((pc : Int) + o).toNat = pt) (hp' : pc + 3 = pc') (kt : ¬ x = z → oG p e below s n0 kc ks Q (T.setTop (mkF m pt L S))) (kf : x = z → oG p e below s n0 kc ks Q (T.setTop (mkF m pc' L S))) : oG p e below s n0 kc ks Q (T.setTop (mkF m pc L (.int (XT.cmpL x z) :: S))) := by
  by_cases q : ¬ x = z
  · have k := kt q
    obtain ⟨locs, X, eT, N, hx, hby, hml, hZ, hown, hnm, hret, hlk, hn⟩ := H
    exact oG.go (fun t hr => XS.ifYes X.here hx rfl rfl (hb hby hd) rfl (XT.ll_ne_t q) ho hp hr) k
  · have k := kf (Classical.not_not.mp q)
    obtain ⟨locs, X, eT, N, hx, hby, hml, hZ, hown, hnm, hret, hlk, hn⟩ := H
    subst hp'
    exact oG.go (fun t hr => XS.ifNo X.here hx rfl (hb hby hd) rfl (XT.ll_ne_f (Classical.not_not.mp q)) hr) k
theorem o_icmp_lt (H : oH p l e R s m args below meth c bc ml y rt Z n0 T h cells slots) {o : Int} {x z : Int32} (hd : decode bc pc = .ok (.if_icmp .lt o, 3)) (ho : 0 ≤ (pc : Int) + o) (hp : ((pc : Int) + o).toNat = pt) (hp' : pc + 3 = pc') (kt : x < z → oG p e below s n0 kc ks Q (T.setTop (mkF m pt L S))) (kf : ¬ x < z → oG p e below s n0 kc ks Q (T.setTop (mkF m pc' L S))) : oG p e below s n0 kc ks Q (T.setTop (mkF m pc L (.int z :: .int x :: S))) := by
  by_cases q : x < z
  · have k := kt q
    obtain ⟨locs, X, eT, N, hx, hby, hml, hZ, hown, hnm, hret, hlk, hn⟩ := H
    exact oG.go (fun t hr => XS.icmpYes X.here hx rfl rfl (hb hby hd) rfl (XT.ii_lt_t q) ho hp hr) k
  · have k := kf q
    obtain ⟨locs, X, eT, N, hx, hby, hml, hZ, hown, hnm, hret, hlk, hn⟩ := H
    subst hp'
    exact oG.go (fun t hr => XS.icmpNo X.here hx rfl (hb hby hd) rfl (XT.ii_lt_f q) hr) k
theorem o_if_lt (H : oH p l e R s m args below meth c bc ml y rt Z n0 T h cells slots) {o : Int} {x : Int32} (hd : decode bc pc = .ok (.ifCond .lt o, 3)) (ho : 0 ≤ (pc : Int) + o) (hp : ((pc : Int) + o).toNat = pt) (hp' : pc + 3 = pc') (kt : x < 0 → oG p e below s n0 kc ks Q (T.setTop (mkF m pt L S))) (kf : ¬ x < 0 → oG p e below s n0 kc ks Q (T.setTop (mkF m pc' L S))) : oG p e below s n0 kc ks Q (T.setTop (mkF m pc L (.int x :: S))) := by
  by_cases q : x < 0
  · have k := kt q
    obtain ⟨locs, X, eT, N, hx, hby, hml, hZ, hown, hnm, hret, hlk, hn⟩ := H
    exact oG.go (fun t hr => XS.ifYes X.here hx rfl rfl (hb hby hd) rfl (XT.i0_lt_t q) ho hp hr) k
  · have k := kf q
    obtain ⟨locs, X, eT, N, hx, hby, hml, hZ, hown, hnm, hret, hlk, hn⟩ := H
    subst hp'
    exact oG.go (fun t hr => XS.ifNo X.here hx rfl (hb hby hd) rfl (XT.i0_lt_f q) hr) k
theorem o_ifl_lt (H : oH p l e R s m args below meth c bc ml y rt Z n0 T h cells slots) {o : Int} {x z : Int64} (hd : decode bc pc = .ok (.ifCond .lt o, 3)) (ho : 0 ≤ (pc : Int) + o) (hp : ((pc : Int) + o).toNat = pt) (hp' : pc + 3 = pc') (kt : x < z → oG p e below s n0 kc ks Q (T.setTop (mkF m pt L S))) (kf : ¬ x < z → oG p e below s n0 kc ks Q (T.setTop (mkF m pc' L S))) : oG p e below s n0 kc ks Q (T.setTop (mkF m pc L (.int (XT.cmpL x z) :: S))) := by
  by_cases q : x < z
  · have k := kt q
    obtain ⟨locs, X, eT, N, hx, hby, hml, hZ, hown, hnm, hret, hlk, hn⟩ := H
    exact oG.go (fun t hr => XS.ifYes X.here hx rfl rfl (hb hby hd) rfl (XT.ll_lt_t q) ho hp hr) k
  · have k := kf q
    obtain ⟨locs, X, eT, N, hx, hby, hml, hZ, hown, hnm, hret, hlk, hn⟩ := H
    subst hp'
    exact oG.go (fun t hr => XS.ifNo X.here hx rfl (hb hby hd) rfl (XT.ll_lt_f q) hr) k
theorem o_icmp_ge (H : oH p l e R s m args below meth c bc ml y rt Z n0 T h cells slots) {o : Int} {x z : Int32} (hd : decode bc pc = .ok (.if_icmp .ge o, 3)) (ho : 0 ≤ (pc : Int) + o) (hp : ((pc : Int) + o).toNat = pt) (hp' : pc + 3 = pc') (kt : ¬ x < z → oG p e below s n0 kc ks Q (T.setTop (mkF m pt L S))) (kf : x < z → oG p e below s n0 kc ks Q (T.setTop (mkF m pc' L S))) : oG p e below s n0 kc ks Q (T.setTop (mkF m pc L (.int z :: .int x :: S))) := by
  by_cases q : ¬ x < z
  · have k := kt q
    obtain ⟨locs, X, eT, N, hx, hby, hml, hZ, hown, hnm, hret, hlk, hn⟩ := H
    exact oG.go (fun t hr => XS.icmpYes X.here hx rfl rfl (hb hby hd) rfl (XT.ii_ge_t q) ho hp hr) k
  · have k := kf (Classical.not_not.mp q)
    obtain ⟨locs, X, eT, N, hx, hby, hml, hZ, hown, hnm, hret, hlk, hn⟩ := H
    subst hp'
    exact oG.go (fun t hr => XS.icmpNo X.here hx rfl (hb hby hd) rfl (XT.ii_ge_f (Classical.not_not.mp q)) hr) k
theorem o_if_ge (H : oH p l e R s m args below meth c bc ml y rt Z n0 T h cells slots) {o : Int} {x : Int32} (hd : decode bc pc = .ok (.ifCond .ge o, 3)) (ho : 0 ≤ (pc : Int) + o) (hp : ((pc : Int) + o).toNat = pt) (hp' : pc + 3 = pc') (kt : ¬ x < 0 → oG p e below s n0 kc ks Q (T.setTop (mkF m pt L S))) (kf : x < 0 → oG p e below s n0 kc ks Q (T.setTop (mkF m pc' L S))) : oG p e below s n0 kc ks Q (T.setTop (mkF m pc L (.int x :: S))) := by
  by_cases q : ¬ x < 0
  · have k := kt q
    obtain ⟨locs, X, eT, N, hx, hby, hml, hZ, hown, hnm, hret, hlk, hn⟩ := H
    exact oG.go (fun t hr => XS.ifYes X.here hx rfl rfl (hb hby hd) rfl (XT.i0_ge_t q) ho hp hr) k
  · have k := kf (Classical.not_not.mp q)
    obtain ⟨locs, X, eT, N, hx, hby, hml, hZ, hown, hnm, hret, hlk, hn⟩ := H
    subst hp'
    exact oG.go (fun t hr => XS.ifNo X.here hx rfl (hb hby hd) rfl (XT.i0_ge_f (Classical.not_not.mp q)) hr) k
theorem o_ifl_ge (H : oH p l e R s m args below meth c bc ml y rt Z n0 T h cells slots) {o : Int} {x z : Int64} (hd : decode bc pc = .ok (.ifCond .ge o, 3)) (ho : 0 ≤ (pc : Int) + o) (hp : ((pc : Int) + o).toNat = pt) (hp' : pc + 3 = pc') (kt : ¬ x < z → oG p e below s n0 kc ks Q (T.setTop (mkF m pt L S))) (kf : x < z → oG p e below s n0 kc ks Q (T.setTop (mkF m pc' L S))) : oG p e below s n0 kc ks Q (T.setTop (mkF m pc L (.int (XT.cmpL x z) :: S))) := by
  by_cases q : ¬ x < z
  · have k := kt q
    obtain ⟨locs, X, eT, N, hx, hby, hml, hZ, hown, hnm, hret, hlk, hn⟩ := H
    exact oG.go (fun t hr => XS.ifYes X.here hx rfl rfl (hb hby hd) rfl (XT.ll_ge_t q) ho hp hr) k
  · have k := kf (Classical.not_not.mp q)
    obtain ⟨locs, X, eT, N, hx, hby, hml, hZ, hown, hnm, hret, hlk, hn⟩ := H
    subst hp'
    exact oG.go (fun t hr => XS.ifNo X.here hx rfl (hb hby hd) rfl (XT.ll_ge_f (Classical.not_not.mp q)) hr) k
theorem o_icmp_gt (H : oH p l e R s m args below meth c bc ml y rt Z n0 T h cells slots) {o : Int} {x z : Int32} (hd : decode bc pc = .ok (.if_icmp .gt o, 3)) (ho : 0 ≤ (pc : Int) + o) (hp : ((pc : Int) + o).toNat = pt) (hp' : pc + 3 = pc') (kt : z < x → oG p e below s n0 kc ks Q (T.setTop (mkF m pt L S))) (kf : ¬ z < x → oG p e below s n0 kc ks Q (T.setTop (mkF m pc' L S))) : oG p e below s n0 kc ks Q (T.setTop (mkF m pc L (.int z :: .int x :: S))) := by
  by_cases q : z < x
  · have k := kt q
    obtain ⟨locs, X, eT, N, hx, hby, hml, hZ, hown, hnm, hret, hlk, hn⟩ := H
    exact oG.go (fun t hr => XS.icmpYes X.here hx rfl rfl (hb hby hd) rfl (XT.ii_gt_t q) ho hp hr) k
  · have k := kf q
    obtain ⟨locs, X, eT, N, hx, hby, hml, hZ, hown, hnm, hret, hlk, hn⟩ := H
    subst hp'
    exact oG.go (fun t hr => XS.icmpNo X.here hx rfl (hb hby hd) rfl (XT.ii_gt_f q) hr) k
theorem o_if_gt (H : oH p l e R s m args below meth c bc ml y rt Z n0 T h cells slots) {o : Int} {x : Int32} (hd : decode bc pc = .ok (.ifCond .gt o, 3)) (ho : 0 ≤ (pc : Int) + o) (hp : ((pc : Int) + o).toNat = pt) (hp' : pc + 3 = pc') (kt : 0 < x → oG p e below s n0 kc ks Q (T.setTop (mkF m pt L S))) (kf : ¬ 0 < x → oG p e below s n0 kc ks Q (T.setTop (mkF m pc' L S))) : oG p e below s n0 kc ks Q (T.setTop (mkF m pc L (.int x :: S))) := by
  by_cases q : 0 < x
  · have k := kt q
    obtain ⟨locs, X, eT, N, hx, hby, hml, hZ, hown, hnm, hret, hlk, hn⟩ := H
    exact oG.go (fun t hr => XS.ifYes X.here hx rfl rfl (hb hby hd) rfl (XT.i0_gt_t q) ho hp hr) k
  · have k := kf q
    obtain ⟨locs, X, eT, N, hx, hby, hml, hZ, hown, hnm, hret, hlk, hn⟩ := H
    subst hp'
    exact oG.go (fun t hr => XS.ifNo X.here hx rfl (hb hby hd) rfl (XT.i0_gt_f q) hr) k
theorem o_ifl_gt (H : oH p l e R s m args below meth c bc ml y rt Z n0 T h cells slots) {o : Int} {x z : Int64} (hd : decode bc pc = .ok (.ifCond .gt o, 3)) (ho : 0 ≤ (pc : Int) + o) (hp : ((pc : Int) + o).toNat = pt) (hp' : pc + 3 = pc') (kt : z < x → oG p e below s n0 kc ks Q (T.setTop (mkF m pt L S))) (kf : ¬ z < x → oG p e below s n0 kc ks Q (T.setTop (mkF m pc' L S))) : oG p e below s n0 kc ks Q (T.setTop (mkF m pc L (.int (XT.cmpL x z) :: S))) := by
  by_cases q : z < x
  · have k := kt q
    obtain ⟨locs, X, eT, N, hx, hby, hml, hZ, hown, hnm, hret, hlk, hn⟩ := H
    exact oG.go (fun t hr => XS.ifYes X.here hx rfl rfl (hb hby hd) rfl (XT.ll_gt_t q) ho hp hr) k
  · have k := kf q
    obtain ⟨locs, X, eT, N, hx, hby, hml, hZ, hown, hnm, hret, hlk, hn⟩ := H
    subst hp'
    exact oG.go (fun t hr => XS.ifNo X.here hx rfl (hb hby hd) rfl (XT.ll_gt_f q) hr) k
theorem o_icmp_le (H : oH p l e R s m args below meth c bc ml y rt Z n0 T h cells slots) {o : Int} {x z : Int32} (hd : decode bc pc = .ok (.if_icmp .le o, 3)) (ho : 0 ≤ (pc : Int) + o) (hp : ((pc : Int) + o).toNat = pt) (hp' : pc + 3 = pc') (kt : ¬ z < x → oG p e below s n0 kc ks Q (T.setTop (mkF m pt L S))) (kf : z < x → oG p e below s n0 kc ks Q (T.setTop (mkF m pc' L S))) : oG p e below s n0 kc ks Q (T.setTop (mkF m pc L (.int z :: .int x :: S))) := by
  by_cases q : ¬ z < x
  · have k := kt q
    obtain ⟨locs, X, eT, N, hx, hby, hml, hZ, hown, hnm, hret, hlk, hn⟩ := H
    exact oG.go (fun t hr => XS.icmpYes X.here hx rfl rfl (hb hby hd) rfl (XT.ii_le_t q) ho hp hr) k
  · have k := kf (Classical.not_not.mp q)
    obtain ⟨locs, X, eT, N, hx, hby, hml, hZ, hown, hnm, hret, hlk, hn⟩ := H
    subst hp'
    exact oG.go (fun t hr => XS.icmpNo X.here hx rfl (hb hby hd) rfl (XT.ii_le_f (Classical.not_not.mp q)) hr) k
theorem o_if_le (H : oH p l e R s m args below meth c bc ml y rt Z n0 T h cells slots) {o : Int} {x : Int32} (hd : decode bc pc = .ok (.ifCond .le o, 3)) (ho : 0 ≤ (pc : Int) + o) (hp : ((pc : Int) + o).toNat = pt) (hp' : pc + 3 = pc') (kt : ¬ 0 < x → oG p e below s n0 kc ks Q (T.setTop (mkF m pt L S))) (kf : 0 < x → oG p e below s n0 kc ks Q (T.setTop (mkF m pc' L S))) : oG p e below s n0 kc ks Q (T.setTop (mkF m pc L (.int x :: S))) := by
  by_cases q : ¬ 0 < x
  · have k := kt q
    obtain ⟨locs, X, eT, N, hx, hby, hml, hZ, hown, hnm, hret, hlk, hn⟩ := H
    exact oG.go (fun t hr => XS.ifYes X.here hx rfl rfl (hb hby hd) rfl (XT.i0_le_t q) ho hp hr) k
  · have k := kf (Classical.not_not.mp q)
    obtain ⟨locs, X, eT, N, hx, hby, hml, hZ, hown, hnm, hret, hlk, hn⟩ := H
    subst hp'
    exact oG.go (fun t hr => XS.ifNo X.here hx rfl (hb hby hd) rfl (XT.i0_le_f (Classical.not_not.mp q)) hr) k
theorem o_ifl_le (H : oH p l e R s m args below meth c bc ml y rt Z n0 T h cells slots) {o : Int} {x z : Int64} (hd : decode bc pc = .ok (.ifCond .le o, 3)) (ho : 0 ≤ (pc : Int) + o) (hp : ((pc : Int) + o).toNat = pt) (hp' : pc + 3 = pc') (kt : ¬ z < x → oG p e below s n0 kc ks Q (T.setTop (mkF m pt L S))) (kf : z < x → oG p e below s n0 kc ks Q (T.setTop (mkF m pc' L S))) : oG p e below s n0 kc ks Q (T.setTop (mkF m pc L (.int (XT.cmpL x z) :: S))) := by
  by_cases q : ¬ z < x
  · have k := kt q
    obtain ⟨locs, X, eT, N, hx, hby, hml, hZ, hown, hnm, hret, hlk, hn⟩ := H
    exact oG.go (fun t hr => XS.ifYes X.here hx rfl rfl (hb hby hd) rfl (XT.ll_le_t q) ho hp hr) k
  · have k := kf (Classical.not_not.mp q)
    obtain ⟨locs, X, eT, N, hx, hby, hml, hZ, hown, hnm, hret, hlk, hn⟩ := H
    subst hp'
    exact oG.go (fun t hr => XS.ifNo X.here hx rfl (hb hby hd) rfl (XT.ll_le_f (Classical.not_not.mp q)) hr) k
theorem o_icmp_t (H : oH p l e R s m args below meth c bc ml y rt Z n0 T h cells slots) {o : Int} {cd : ClassFile.Cond} {x z : Int32} (hd : decode bc pc = .ok (.if_icmp cd o, 3)) (hc : if_icmp.holds cd x z = true) (ho : 0 ≤ (pc : Int) + o) (hp : ((pc : Int) + o).toNat = pt) (k : oG p e below s n0 kc ks Q (T.setTop (mkF m pt L S))) : oG p e below s n0 kc ks Q (T.setTop (mkF m pc L (.int z :: .int x :: S))) := by
  obtain ⟨locs, X, eT, N, hx, hby, hml, hZ, hown, hnm, hret, hlk, hn⟩ := H
  exact oG.go (fun t hr => XS.icmpYes X.here hx rfl rfl (hb hby hd) rfl hc ho hp hr) k
theorem o_icmp_f (H : oH p l e R s m args below meth c bc ml y rt Z n0 T h cells slots) {o : Int} {cd : ClassFile.Cond} {x z : Int32} (hd : decode bc pc = .ok (.if_icmp cd o, 3)) (hc : if_icmp.holds cd x z = false) (hp : pc + 3 = pc') (k : oG p e below s n0 kc ks Q (T.setTop (mkF m pc' L S))) : oG p e below s n0 kc ks Q (T.setTop (mkF m pc L (.int z :: .int x :: S))) := by
  obtain ⟨locs, X, eT, N, hx, hby, hml, hZ, hown, hnm, hret, hlk, hn⟩ := H
  subst hp
  exact oG.go (fun t hr => XS.icmpNo X.here hx rfl (hb hby hd) rfl hc hr) k
theorem o_if_t (H : oH p l e R s m args below meth c bc ml y rt Z n0 T h cells slots) {o : Int} {cd : ClassFile.Cond} {x : Int32} (hd : decode bc pc = .ok (.ifCond cd o, 3)) (hc : ifCond.holds cd x = true) (ho : 0 ≤ (pc : Int) + o) (hp : ((pc : Int) + o).toNat = pt) (k : oG p e below s n0 kc ks Q (T.setTop (mkF m pt L S))) : oG p e below s n0 kc ks Q (T.setTop (mkF m pc L (.int x :: S))) := by
  obtain ⟨locs, X, eT, N, hx, hby, hml, hZ, hown, hnm, hret, hlk, hn⟩ := H
  exact oG.go (fun t hr => XS.ifYes X.here hx rfl rfl (hb hby hd) rfl hc ho hp hr) k
theorem o_if_f (H : oH p l e R s m args below meth c bc ml y rt Z n0 T h cells slots) {o : Int} {cd : ClassFile.Cond} {x : Int32} (hd : decode bc pc = .ok (.ifCond cd o, 3)) (hc : ifCond.holds cd x = false) (hp : pc + 3 = pc') (k : oG p e below s n0 kc ks Q (T.setTop (mkF m pc' L S))) : oG p e below s n0 kc ks Q (T.setTop (mkF m pc L (.int x :: S))) := by
  obtain ⟨locs, X, eT, N, hx, hby, hml, hZ, hown, hnm, hret, hlk, hn⟩ := H
  subst hp
  exact oG.go (fun t hr => XS.ifNo X.here hx rfl (hb hby hd) rfl hc hr) k
theorem o_ifnull_t (H : oH p l e R s m args below meth c bc ml y rt Z n0 T h cells slots) {o : Int} (hd : decode bc pc = .ok (.ifnull o, 3)) (ho : 0 ≤ (pc : Int) + o) (hp : ((pc : Int) + o).toNat = pt) (k : oG p e below s n0 kc ks Q (T.setTop (mkF m pt L S))) : oG p e below s n0 kc ks Q (T.setTop (mkF m pc L (.null :: S))) := by
  obtain ⟨locs, X, eT, N, hx, hby, hml, hZ, hown, hnm, hret, hlk, hn⟩ := H
  exact oG.go (fun t hr => XS.ifnullYes X.here hx rfl rfl (hb hby hd) rfl ho hp hr) k
theorem o_ifnull_f (H : oH p l e R s m args below meth c bc ml y rt Z n0 T h cells slots) {o : Int} {a : Addr} (hd : decode bc pc = .ok (.ifnull o, 3)) (hp : pc + 3 = pc') (k : oG p e below s n0 kc ks Q (T.setTop (mkF m pc' L S))) : oG p e below s n0 kc ks Q (T.setTop (mkF m pc L (.ref a :: S))) := by
  obtain ⟨locs, X, eT, N, hx, hby, hml, hZ, hown, hnm, hret, hlk, hn⟩ := H
  subst hp
  exact oG.go (fun t hr => XS.ifnullNo X.here hx rfl (hb hby hd) rfl hr) k
theorem o_ifnonnull_t (H : oH p l e R s m args below meth c bc ml y rt Z n0 T h cells slots) {o : Int} {a : Addr} (hd : decode bc pc = .ok (.ifnonnull o, 3)) (ho : 0 ≤ (pc : Int) + o) (hp : ((pc : Int) + o).toNat = pt) (k : oG p e below s n0 kc ks Q (T.setTop (mkF m pt L S))) : oG p e below s n0 kc ks Q (T.setTop (mkF m pc L (.ref a :: S))) := by
  obtain ⟨locs, X, eT, N, hx, hby, hml, hZ, hown, hnm, hret, hlk, hn⟩ := H
  exact oG.go (fun t hr => XT.ifnonnullYes X.here hx rfl rfl (hb hby hd) rfl ho hp hr) k
theorem o_ifnonnull_f (H : oH p l e R s m args below meth c bc ml y rt Z n0 T h cells slots) {o : Int} (hd : decode bc pc = .ok (.ifnonnull o, 3)) (hp : pc + 3 = pc') (k : oG p e below s n0 kc ks Q (T.setTop (mkF m pc' L S))) : oG p e below s n0 kc ks Q (T.setTop (mkF m pc L (.null :: S))) := by
  obtain ⟨locs, X, eT, N, hx, hby, hml, hZ, hown, hnm, hret, hlk, hn⟩ := H
  subst hp
  exact oG.go (fun t hr => XT.ifnonnullNo X.here hx rfl (hb hby hd) rfl hr) k
theorem o_acmp_t (H : oH p l e R s m args below meth c bc ml y rt Z n0 T h cells slots) {o : Int} {cd : ClassFile.ACond} {u w : Value} (hd : decode bc pc = .ok (.if_acmp cd o, 3)) (hu : u.isRef = true) (hw : w.isRef = true) (hc : XT.acmp cd u w = true) (ho : 0 ≤ (pc : Int) + o) (hp : ((pc : Int) + o).toNat = pt) (k : oG p e below s n0 kc ks Q (T.setTop (mkF m pt L S))) : oG p e below s n0 kc ks Q (T.setTop (mkF m pc L (w :: u :: S))) := by
  obtain ⟨locs, X, eT, N, hx, hby, hml, hZ, hown, hnm, hret, hlk, hn⟩ := H
  exact oG.go (fun t hr => XT.acmpYes X.here hx rfl rfl (hb hby hd) rfl hu hw hc ho hp hr) k
theorem o_acmp_f (H : oH p l e R s m args below meth c bc ml y rt Z n0 T h cells slots) {o : Int} {cd : ClassFile.ACond} {u w : Value} (hd : decode bc pc = .ok (.if_acmp cd o, 3)) (hu : u.isRef = true) (hw : w.isRef = true) (hc : XT.acmp cd u w = false) (hp : pc + 3 = pc') (k : oG p e below s n0 kc ks Q (T.setTop (mkF m pc' L S))) : oG p e below s n0 kc ks Q (T.setTop (mkF m pc L (w :: u :: S))) := by
  obtain ⟨locs, X, eT, N, hx, hby, hml, hZ, hown, hnm, hret, hlk, hn⟩ := H
  subst hp
  exact oG.go (fun t hr => XT.acmpNo X.here hx rfl (hb hby hd) rfl hu hw hc hr) k
theorem o_ldcI (H : oH p l e R s m args below meth c bc ml y rt Z n0 T h cells slots) {i : Nat} (v : Int32) (w : (Jvm.Cond.constant y.cls i v).before a0 Z = true) (hd : decode bc pc = .ok (.ldc i, 2)) (hp : pc + 2 = pc') (k : oG p e below s n0 kc ks Q (T.setTop (mkF m pc' L (.int v :: S)))) : oG p e below s n0 kc ks Q (T.setTop (mkF m pc L S)) := by
  obtain ⟨locs, X, eT, N, hx, hby, hml, hZ, hown, hnm, hret, hlk, hn⟩ := H
  subst hp
  exact oG.go (X.ldcInt hx hown (mvT hZ w) (g := mkF m pc L S) rfl (hb hby hd)) k
theorem o_ldcJ (H : oH p l e R s m args below meth c bc ml y rt Z n0 T h cells slots) {i : Nat} (v : Int64) (w : (Jvm.Cond.constantLong y.cls i v).before a0 Z = true) (hd : decode bc pc = .ok (.ldc2_w i, 3)) (hp : pc + 3 = pc') (k : oG p e below s n0 kc ks Q (T.setTop (mkF m pc' L (.long v :: S)))) : oG p e below s n0 kc ks Q (T.setTop (mkF m pc L S)) := by
  obtain ⟨locs, X, eT, N, hx, hby, hml, hZ, hown, hnm, hret, hlk, hn⟩ := H
  subst hp
  exact oG.go (X.ldc2Long hx hown (mvT hZ w) (g := mkF m pc L S) rfl (hb hby hd)) k
theorem o_ireturn (H : oH p l e R s m args below meth c bc ml y rt Z n0 T h cells slots) {z : Int32} (hrt : rt = some .int) (hd : decode bc pc = .ok (.ireturn, 1)) (hk : cells ≤ kc) (hs : slots ≤ ks) (q : Q (some (.int z)) h) : oG p e below s n0 kc ks Q (T.setTop (mkF m pc L (.int z :: S))) := by
  obtain ⟨locs, X, eT, N, hx, hby, hml, hZ, hown, hnm, hret, hlk, hn⟩ := H
  obtain ⟨fs, hr, hrun, hended, hW, hsame⟩ := X.leave (v := (some (.int z))) (fun hh => by first | rfl | (rw [hret, hrt] at hh; cases hh)) hlk
  refine ⟨_, _, retI X hx (hret.trans hrt) (hb hby hd) hr, hrun, hended, _, _, rfl, ⟨?_, N⟩, ⟨_, rfl⟩, hW, hsame.mono hk hs⟩
  show Q _ T.heap
  rw [eT]; exact q
theorem o_nreturn (H : oH p l e R s m args below meth c bc ml y rt Z n0 T h cells slots) {z : Int32} (t : FieldType) (hrt : rt = some t) (ht : t = .boolean ∨ t = .byte ∨ t = .char ∨ t = .short) (hd : decode bc pc = .ok (.ireturn, 1)) (hk : cells ≤ kc) (hs : slots ≤ ks) (q : Q (some (.int (nar t z))) h) : oG p e below s n0 kc ks Q (T.setTop (mkF m pc L (.int z :: S))) := by
  obtain ⟨locs, X, eT, N, hx, hby, hml, hZ, hown, hnm, hret, hlk, hn⟩ := H
  obtain ⟨fs, hr, hrun, hended, hW, hsame⟩ := X.leave (v := (some (.int (nar t z)))) (fun hh => by first | rfl | (rw [hret, hrt] at hh; cases hh)) hlk
  refine ⟨_, _, retN X hx (hret.trans hrt) ht (hb hby hd) hr, hrun, hended, _, _, rfl, ⟨?_, N⟩, ⟨_, rfl⟩, hW, hsame.mono hk hs⟩
  show Q _ T.heap
  rw [eT]; exact q
theorem o_lreturn (H : oH p l e R s m args below meth c bc ml y rt Z n0 T h cells slots) {z : Int64} (hrt : rt = some .long) (hd : decode bc pc = .ok (.lreturn, 1)) (hk : cells ≤ kc) (hs : slots ≤ ks) (q : Q (some (.long z)) h) : oG p e below s n0 kc ks Q (T.setTop (mkF m pc L (.long z :: S))) := by
  obtain ⟨locs, X, eT, N, hx, hby, hml, hZ, hown, hnm, hret, hlk, hn⟩ := H
  obtain ⟨fs, hr, hrun, hended, hW, hsame⟩ := X.leave (v := (some (.long z))) (fun hh => by first | rfl | (rw [hret, hrt] at hh; cases hh)) hlk
  refine ⟨_, _, retOut X hx (w := .long z) (i := .lreturn) (hret.trans hrt) rfl (Or.inr (Or.inl ⟨rfl, rfl, z, rfl⟩)) (hb hby hd) hr, hrun, hended, _, _, rfl, ⟨?_, N⟩, ⟨_, rfl⟩, hW, hsame.mono hk hs⟩
  show Q _ T.heap
  rw [eT]; exact q
theorem o_areturn (H : oH p l e R s m args below meth c bc ml y rt Z n0 T h cells slots) {v : Value} {t : FieldType} (hrt : rt = some t) (ht : t.isReference = true) (hv : v.isRef = true) (hna : narrow t v = v) (hd : decode bc pc = .ok (.areturn, 1)) (hk : cells ≤ kc) (hs : slots ≤ ks) (q : Q (some v) h) : oG p e below s n0 kc ks Q (T.setTop (mkF m pc L (v :: S))) := by
  obtain ⟨locs, X, eT, N, hx, hby, hml, hZ, hown, hnm, hret, hlk, hn⟩ := H
  obtain ⟨fs, hr, hrun, hended, hW, hsame⟩ := X.leave (v := (some v)) (fun hh => by first | rfl | (rw [hret, hrt] at hh; cases hh)) hlk
  refine ⟨_, _, retOut X hx (w := v) (i := .areturn) (hret.trans hrt) hna (Or.inr (Or.inr (Or.inr (Or.inr ⟨rfl, ht, hv⟩)))) (hb hby hd) hr, hrun, hended, _, _, rfl, ⟨?_, N⟩, ⟨_, rfl⟩, hW, hsame.mono hk hs⟩
  show Q _ T.heap
  rw [eT]; exact q
theorem o_return (H : oH p l e R s m args below meth c bc ml y rt Z n0 T h cells slots)  (hrt : rt = none) (hd : decode bc pc = .ok (.return_, 1)) (hk : cells ≤ kc) (hs : slots ≤ ks) (q : Q none h) : oG p e below s n0 kc ks Q (T.setTop (mkF m pc L [])) := by
  obtain ⟨locs, X, eT, N, hx, hby, hml, hZ, hown, hnm, hret, hlk, hn⟩ := H
  obtain ⟨fs, hr, hrun, hended, hW, hsame⟩ := X.leave (v := none) (fun hh => by first | rfl | (rw [hret, hrt] at hh; cases hh)) hlk
  refine ⟨_, _, X.returnOut hx (hret.trans hrt) (hb hby hd) hr, hrun, hended, _, _, rfl, ⟨?_, N⟩, ⟨_, rfl⟩, hW, hsame.mono hk hs⟩
  show Q _ T.heap
  rw [eT]; exact q
theorem o_new (H : oH p l e R s m args below meth c bc ml y rt Z n0 T h cells slots) {i nn : Nat} {C : String} (w : (Jvm.Cond.classLink y.cls i C).before a0 Z = true) (wi : (Jvm.Cond.instantiable C nn).before a0 Z = true) (wz : (Jvm.Cond.initialized C).before a0 Z = true) (hd : decode bc pc = .ok (.new i, 3)) (hp : pc + 3 = pc') (hc : cells + 1 ≤ R.cells) (hl : slots + nn ≤ R.slots)
    (k : ∀ (T' : State) (h' : Heap) (a : Addr), a = h.size → oH p l e R s m args below meth c bc ml y rt Z n0 T' h' (cells + 1) (slots + nn) → Ext h h' → Exa Z h' a C → (∀ {O nm d : String} {ty : FieldType}, Laid Z a0 C O nm d → parseFieldDescriptor d = some ty → Fld Z h' a O nm d (defaultValue ty)) → oG p e below s n0 kc ks Q (T'.setTop (mkF m pc' L (.ref a :: S)))) : oG p e below s n0 kc ks Q (T.setTop (mkF m pc L S)) := by
  obtain ⟨locs, X, eT, N, hx, hby, hml, hZ, hown, hnm, hret, hlk, hn⟩ := H
  subst hp
  obtain ⟨T', h', X', e', E, A, D, -, st⟩ := newO X hx hZ hown w wi wz eT (g := mkF m pc L S) rfl (hb hby hd) hc hl
  exact oG.go st (k T' h' _ rfl ⟨locs, X', e', N, hx, hby, hml, hZ, hown, hnm, hret, hlk, hn⟩ E A (fun La ht => D La ht))
theorem o_initO (H : oH p l e R s m args below meth c bc ml y rt Z n0 T h cells slots) {i : Nat} {a : Addr} (w1 : (Jvm.Cond.methodLink y.cls i Lib.objectInit).before a0 Z = true) (w2 : (Jvm.Cond.instanceMethod Lib.objectInit).before a0 Z = true) (w3 : (Jvm.Cond.code Lib.objectInit ⟨#[0xb1]⟩ 1 none).before a0 Z = true) (hd : decode bc pc = .ok (.invokespecial i, 3)) (hp : pc + 3 = pc') (hsz : L.size = ml) (hf : 1 ≤ R.frames) (hlo : (S.map fun v => v.category).sum + 12 ≤ R.locals)
    (k : ∀ (T' : State), oH p l e R s m args below meth c bc ml y rt Z n0 T' h cells slots → oG p e below s n0 kc ks Q (T'.setTop (mkF m pc' L S))) : oG p e below s n0 kc ks Q (T.setTop (mkF m pc L (.ref a :: S))) := by
  obtain ⟨locs, X, eT, N, hx, hby, hml, hZ, hown, hnm, hret, hlk, hn⟩ := H
  subst hp
  obtain ⟨T', X', e', st⟩ := initO X hx hZ hown w1 w2 w3 eT (g := mkF m pc L (.ref a :: S)) rfl (by rw [hml]; exact hsz) rfl (hb hby hd) hf (W := (S.map fun v => v.category).sum) (by show 2 * 0 + _ ≤ _; omega) hlo
  exact oG.go st (k T' ⟨locs, X', e', N, hx, hby, hml, hZ, hown, hnm, hret, hlk, hn⟩)
theorem o_getF (H : oH p l e R s m args below meth c bc ml y rt Z n0 T h cells slots) {i : Nat} {a : Addr} {C f d host : String} {v : Value} (w : (Jvm.Cond.fieldLink y.cls i C f d).before a0 Z = true ∨ (Jvm.Cond.fieldLinkNest y.cls i C f d host).before a0 Z = true) (F : Fld Z h a C f d v) (hd : decode bc pc = .ok (.getfield i, 3)) (hp : pc + 3 = pc')
    (k : ∀ (T' : State), oH p l e R s m args below meth c bc ml y rt Z n0 T' h cells slots → oG p e below s n0 kc ks Q (T'.setTop (mkF m pc' L (v :: S)))) : oG p e below s n0 kc ks Q (T.setTop (mkF m pc L (.ref a :: S))) := by
  obtain ⟨locs, X, eT, N, hx, hby, hml, hZ, hown, hnm, hret, hlk, hn⟩ := H
  subst hp
  obtain ⟨T', X', e', st⟩ := getF X hx hZ hown (host := host) w Via.refl eT F (g := mkF m pc L (.ref a :: S)) rfl rfl (hb hby hd)
  exact oG.go st (k T' ⟨locs, X', e', N, hx, hby, hml, hZ, hown, hnm, hret, hlk, hn⟩)
theorem o_putF (H : oH p l e R s m args below meth c bc ml y rt Z n0 T h cells slots) {i kk : Nat} {a : Addr} {C K f d host : String} {v old : Value} {ty : FieldType} (w : (Jvm.Cond.fieldLink y.cls i C f d).before a0 Z = true ∨ (Jvm.Cond.fieldLinkNest y.cls i C f d host).before a0 Z = true) (F : Fld Z h a C f d old) (E : Exa Z h a K) (wl : (Jvm.Cond.lays K C f d).before a0 Z = true ∨ ((Jvm.Cond.laysFinal K C f d).before a0 Z = true ∧ y.cls = C ∧ y.name = "<init>")) (wi : (Jvm.Cond.instantiable K kk).before a0 Z = true) (hty : parseFieldDescriptor d = some ty) (hna : narrow ty v = v) (hft : fits ty v = true) (ha : n0 ≤ a) (hd : decode bc pc = .ok (.putfield i, 3)) (hp : pc + 3 = pc')
    (k : ∀ (T' : State) (h' : Heap), oH p l e R s m args below meth c bc ml y rt Z n0 T' h' cells slots → Wr h h' a (Jvm.RoadKit.slotOf Z C f d) v → oG p e below s n0 kc ks Q (T'.setTop (mkF m pc' L S))) : oG p e below s n0 kc ks Q (T.setTop (mkF m pc L (v :: .ref a :: S))) := by
  obtain ⟨locs, X, eT, N, hx, hby, hml, hZ, hown, hnm, hret, hlk, hn⟩ := H
  subst hp
  obtain ⟨T', h', X', e', W, st⟩ := putF X hx hZ hown (host := host) w Via.refl eT F E (wl.imp id fun q => ⟨q.1, q.2.1, hnm.trans q.2.2⟩) wi hty hna hft (g := mkF m pc L (v :: .ref a :: S)) rfl rfl (hb hby hd)
  exact oG.go st (k T' h' ⟨_, X', e', Fr.snoc X' N ha, hx, hby, hml, hZ, hown, hnm, hret, hlk, hn⟩ W)
theorem o_putFN (H : oH p l e R s m args below meth c bc ml y rt Z n0 T h cells slots) {i kk : Nat} {a : Addr} {C K f d : String} {v v' old : Value} {ty : FieldType} (w : (Jvm.Cond.fieldLink y.cls i C f d).before a0 Z = true) (F : Fld Z h a C f d old) (E : Exa Z h a K) (wl : (Jvm.Cond.lays K C f d).before a0 Z = true ∨ ((Jvm.Cond.laysFinal K C f d).before a0 Z = true ∧ y.cls = C ∧ y.name = "<init>")) (wi : (Jvm.Cond.instantiable K kk).before a0 Z = true) (hty : parseFieldDescriptor d = some ty) (hna : narrow ty v = v') (hft : fits ty v' = true) (ha : n0 ≤ a) (hd : decode bc pc = .ok (.putfield i, 3)) (hp : pc + 3 = pc')
    (k : ∀ (T' : State) (h' : Heap), oH p l e R s m args below meth c bc ml y rt Z n0 T' h' cells slots → Wr h h' a (Jvm.RoadKit.slotOf Z C f d) v' → oG p e below s n0 kc ks Q (T'.setTop (mkF m pc' L S))) : oG p e below s n0 kc ks Q (T.setTop (mkF m pc L (v :: .ref a :: S))) := by
  obtain ⟨locs, X, eT, N, hx, hby, hml, hZ, hown, hnm, hret, hlk, hn⟩ := H
  subst hp
  obtain ⟨T', h', X', e', W, st⟩ := putFN X hx hZ hown w Via.refl eT F E (wl.imp id fun q => ⟨q.1, q.2.1, hnm.trans q.2.2⟩) wi hty hna hft (g := mkF m pc L (v :: .ref a :: S)) rfl rfl (hb hby hd)
  exact oG.go st (k T' h' ⟨_, X', e', Fr.snoc X' N ha, hx, hby, hml, hZ, hown, hnm, hret, hlk, hn⟩ W)
theorem o_getS (H : oH p l e R s m args below meth c bc ml y rt Z n0 T h cells slots) {i : Nat} {C f d host : String} {v : Value} (w : (Jvm.Cond.fieldLink y.cls i C f d).before a0 Z = true ∨ (Jvm.Cond.fieldLinkNest y.cls i C f d host).before a0 Z = true) (F : Sta Z h C f d v) (hd : decode bc pc = .ok (.getstatic i, 3)) (hp : pc + 3 = pc')
    (k : ∀ (T' : State), oH p l e R s m args below meth c bc ml y rt Z n0 T' h cells slots → oG p e below s n0 kc ks Q (T'.setTop (mkF m pc' L (v :: S)))) : oG p e below s n0 kc ks Q (T.setTop (mkF m pc L S)) := by
  obtain ⟨locs, X, eT, N, hx, hby, hml, hZ, hown, hnm, hret, hlk, hn⟩ := H
  subst hp
  obtain ⟨T', X', e', st⟩ := getS2 X hx hZ hown (host := host) w Via.refl eT F (g := mkF m pc L S) rfl (hb hby hd)
  exact oG.go st (k T' ⟨locs, X', e', N, hx, hby, hml, hZ, hown, hnm, hret, hlk, hn⟩)
theorem o_instY (H : oH p l e R s m args below meth c bc ml y rt Z n0 T h cells slots) {i : Nat} {a : Addr} {K : String} (w : (Jvm.Cond.classLink y.cls i K).before a0 Z = true) (I : Ins Z h a K true) (hd : decode bc pc = .ok (.instanceof i, 3)) (hp : pc + 3 = pc') (k : ∀ (T' : State), oH p l e R s m args below meth c bc ml y rt Z n0 T' h cells slots → oG p e below s n0 kc ks Q (T'.setTop (mkF m pc' L (.int 1 :: S)))) : oG p e below s n0 kc ks Q (T.setTop (mkF m pc L (.ref a :: S))) := by
  obtain ⟨locs, X, eT, N, hx, hby, hml, hZ, hown, hnm, hret, hlk, hn⟩ := H
  subst hp
  obtain ⟨T', X', e', st⟩ := instY X hx hZ hown w eT I (g := mkF m pc L (.ref a :: S)) rfl rfl (hb hby hd)
  exact oG.go st (k T' ⟨locs, X', e', N, hx, hby, hml, hZ, hown, hnm, hret, hlk, hn⟩)
theorem o_castY (H : oH p l e R s m args below meth c bc ml y rt Z n0 T h cells slots) {i : Nat} {a : Addr} {K : String} (w : (Jvm.Cond.classLink y.cls i K).before a0 Z = true) (I : Ins Z h a K true) (hd : decode bc pc = .ok (.checkcast i, 3)) (hp : pc + 3 = pc') (k : ∀ (T' : State), oH p l e R s m args below meth c bc ml y rt Z n0 T' h cells slots → oG p e below s n0 kc ks Q (T'.setTop (mkF m pc' L (.ref a :: S)))) : oG p e below s n0 kc ks Q (T.setTop (mkF m pc L (.ref a :: S))) := by
  obtain ⟨locs, X, eT, N, hx, hby, hml, hZ, hown, hnm, hret, hlk, hn⟩ := H
  subst hp
  obtain ⟨T', X', e', st⟩ := castY X hx hZ hown w eT I (g := mkF m pc L (.ref a :: S)) rfl rfl (hb hby hd)
  exact oG.go st (k T' ⟨locs, X', e', N, hx, hby, hml, hZ, hown, hnm, hret, hlk, hn⟩)
theorem o_instNo (H : oH p l e R s m args below meth c bc ml y rt Z n0 T h cells slots) {i : Nat} {a : Addr} {C K : String} (w : (Jvm.Cond.classLink y.cls i K).before a0 Z = true) (E : Exa Z h a C) (F : ∃ c t, Z.vm.findClass C = some c ∧ Z.vm.findClass K = some t ∧ Z.vm.assignable c t = false) (hd : decode bc pc = .ok (.instanceof i, 3)) (hp : pc + 3 = pc') (k : ∀ (T' : State), oH p l e R s m args below meth c bc ml y rt Z n0 T' h cells slots → oG p e below s n0 kc ks Q (T'.setTop (mkF m pc' L (.int 0 :: S)))) : oG p e below s n0 kc ks Q (T.setTop (mkF m pc L (.ref a :: S))) := by
  obtain ⟨locs, X, eT, N, hx, hby, hml, hZ, hown, hnm, hret, hlk, hn⟩ := H
  subst hp
  obtain ⟨T', X', e', st⟩ := instNo X hx hZ hown w eT E F (g := mkF m pc L (.ref a :: S)) rfl rfl (hb hby hd)
  exact oG.go st (k T' ⟨locs, X', e', N, hx, hby, hml, hZ, hown, hnm, hret, hlk, hn⟩)
theorem o_instNull (H : oH p l e R s m args below meth c bc ml y rt Z n0 T h cells slots) {i : Nat} (hd : decode bc pc = .ok (.instanceof i, 3)) (hp : pc + 3 = pc') (k : oG p e below s n0 kc ks Q (T.setTop (mkF m pc' L (.int 0 :: S)))) : oG p e below s n0 kc ks Q (T.setTop (mkF m pc L (.null :: S))) := by
  obtain ⟨locs, X, eT, N, hx, hby, hml, hZ, hown, hnm, hret, hlk, hn⟩ := H
  subst hp
  exact oG.go (X.instanceofNull hx (g := mkF m pc L (.null :: S)) rfl rfl (hb hby hd)) k
theorem o_aaloadC (H : oH p l e R s m args below meth c bc ml y rt Z n0 T h cells slots) {a : Addr} {j : Int32} {cl : Cell} {ty : FieldType} (v : Value) (A : Arr Z h a cl ty) (hty : ty.isReference = true) (hin : ¬ (j < 0 ∨ cl.slots.size ≤ j.toNatClampNeg)) (hv : cl.slots[j.toNatClampNeg]? = some v) (hd : decode bc pc = .ok (.aaload, 1)) (hp : pc + 1 = pc') (k : oG p e below s n0 kc ks Q (T.setTop (mkF m pc' L (v :: S)))) : oG p e below s n0 kc ks Q (T.setTop (mkF m pc L (.int j :: .ref a :: S))) := by
  obtain ⟨locs, X, eT, N, hx, hby, hml, hZ, hown, hnm, hret, hlk, hn⟩ := H
  subst hp
  exact oG.go (fun t hr => X.aaload hx (j := j) (v := v) (by rw [eT]; exact A.1) (State.isArrayOf_alike hZ.alike A.2.1) hty A.2.2 hin hv (g := mkF m pc L (.int j :: .ref a :: S)) rfl rfl (hb hby hd) t hr) k
theorem o_kext {h' : Heap} (K : Keep h h' []) : Ext h h' := ⟨K.1, fun a c q => K.2.1 a c q nin0⟩
theorem o_etrans {h' h'' : Heap} (E : Ext h h') (E' : Ext h' h'') : Ext h h'' := ⟨Nat.le_trans E.1 E'.1, fun a c q => E'.2 a c (E.2 a c q)⟩
/-- C's chain of superclasses, ended by O, meets no class that can be made of the name K -/
theorem o_noSub {C K : String} {n : Nat} (wk : (Jvm.Cond.instantiable K n).before a0 Z = true) (kd : ∃ c k, Z.vm.findClass C = some c ∧ Z.vm.classes[c]? = some k ∧ k.kind = .ordinary) (hn : C ≠ K) (nf : ∀ c t, Z.vm.findClass C = some c → Z.vm.findClass K = some t → ∀ fuel, Z.vm.isSubclassAux fuel c t = false) : ∃ c t, Z.vm.findClass C = some c ∧ Z.vm.findClass K = some t ∧ Z.vm.assignable c t = false := by
  obtain ⟨c, k, h1, h2, h3⟩ := kd
  obtain ⟨t, kt, g1, g2, g3, g4, -⟩ := Cond.instantiable_spec wk
  have ne := ids_ne h1 g1 hn
  have g5 : kt.isInterface = false := (Bool.or_eq_false_iff.mp g4).1
  refine ⟨c, t, h1, g1, ?_⟩
  show Z.vm.assignableAux (255 + 1) c t = false
  simp [Vm.assignableAux, ne, h2, g2, h3, g3, g5, Vm.isSubclass, nf c t h1 g1]
theorem o_subRoot {O K : String} {n : Nat} (w : (Jvm.Cond.noSuperclass O).before a0 Z = true) (wk : (Jvm.Cond.instantiable K n).before a0 Z = true) (hn : O ≠ K) : NS Z O K := by
  obtain ⟨c, k, h1, h2, h3, -, -⟩ := Cond.noSuperclass_spec w
  obtain ⟨t, kt, g1, g2, g3, g4, -⟩ := Cond.instantiable_spec wk
  have ne := ids_ne h1 g1 hn
  refine ⟨c, t, h1, g1, fun fuel => ?_⟩
  cases fuel with
  | zero => rfl
  | succ f => simp [Vm.isSubclassAux, ne, h2, h3]
theorem o_ns {C S' K : String} {n : Nat} (w : (Jvm.Cond.superclass C S').before a0 Z = true) (wk : (Jvm.Cond.instantiable K n).before a0 Z = true) (N : NS Z C K) (hn : C ≠ K) : ∃ c t, Z.vm.findClass C = some c ∧ Z.vm.findClass K = some t ∧ Z.vm.assignable c t = false := by
  obtain ⟨c, h0⟩ := found_sup w
  obtain ⟨p, k, kp, h1, h2, h3, h4, h5, -, h7⟩ := Cond.superclass_spec h0 w
  refine o_noSub wk ⟨c, k, h0, h2, h5⟩ hn fun c' t' q1 q2 => ?_
  obtain ⟨c1, t1, r1, r2, r3⟩ := N
  cases r1.symm.trans q1
  cases r2.symm.trans q2
  exact r3
/-- an array, by the list of what it holds -/
def oA (ty : FieldType) (Z : State) (h : Heap) (a : Addr) (vs : List Value) : Prop := vs.length < 2 ^ 31 ∧ ∃ cl : Cell, Arr Z h a cl ty ∧ cl.slots = vs.toArray
theorem oA.ext {ty : FieldType} {h' : Heap} {a : Addr} {vs : List Value} (A : oA ty Z h a vs) (E : Ext h h') : oA ty Z h' a vs := by
  obtain ⟨q, cl, A, r⟩ := A; exact ⟨q, cl, A.ext E, r⟩
theorem oA.other {ty : FieldType} {h' : Heap} {a b : Addr} {sl : Nat} {v : Value} {vs : List Value} (A : oA ty Z h b vs) (W : Wr h h' a sl v) (ne : b ≠ a) : oA ty Z h' b vs := by
  obtain ⟨q, cl, A, r⟩ := A; exact ⟨q, cl, A.other W ne, r⟩
theorem oA.keep {ty : FieldType} {h' : Heap} {a : Addr} {ws : List Addr} {vs : List Value} (A : oA ty Z h a vs) (K : Keep h h' ws) (ne : a ∉ ws) : oA ty Z h' a vs := by
  obtain ⟨q, cl, A, r⟩ := A; exact ⟨q, cl, ⟨K.2.1 a cl A.1 ne, A.2⟩, r⟩
theorem oA.lt {ty : FieldType} {a : Addr} {vs : List Value} (A : oA ty Z h a vs) : a < h.size := by
  obtain ⟨q, cl, A, r⟩ := A; exact A.lt
theorem oA.same {ty : FieldType} {h' : Heap} {a : Addr} {j : Nat} {v : Value} {vs : List Value} (A : oA ty Z h a vs) (W : Wr h h' a j v) : oA ty Z h' a (vs.set j v) := by
  obtain ⟨q, cl, A, r⟩ := A
  refine ⟨by rw [List.length_set]; exact q, _, A.same W, ?_⟩
  show cl.slots.setIfInBounds j v = _
  rw [r, List.setIfInBounds_toArray]
theorem o_inb {cl : Cell} {vs : List Value} {j : Int32} {i : Nat} (r : cl.slots = vs.toArray) (h0 : j.toInt = (i : Int)) (h1 : i < vs.length) : ¬ (j < 0 ∨ cl.slots.size ≤ j.toNatClampNeg) := by
  have e0 : (0 : Int32).toInt = 0 := rfl
  have e1 : cl.slots.size = vs.length := by rw [r]; simp
  rw [Int32.lt_iff_toInt_lt, e0, e1]
  simp only [Int32.toNatClampNeg]; omega
theorem o_nat {j : Int32} {i : Nat} (h0 : j.toInt = (i : Int)) : j.toNatClampNeg = i := by
  simp only [Int32.toNatClampNeg]; omega
theorem o_elt {cl : Cell} {vs : List Value} {j : Int32} {i : Nat} {v : Value} (r : cl.slots = vs.toArray) (h0 : j.toInt = (i : Int)) (hv : vs[i]? = some v) : cl.slots[j.toNatClampNeg]? = some v := by
  rw [r, o_nat h0]; simpa using hv
theorem o_lt_of {vs : List Value} {i : Nat} {v : Value} (hv : vs[i]? = some v) : i < vs.length := (List.getElem?_eq_some_iff.mp hv).1
theorem o_newarr (H : oH p l e R s m args below meth c bc ml y rt Z n0 T h cells slots) {aty : ArrayType} {z : Int32} (cap n : Nat) (w : (Jvm.Cond.arrayClass (newarray.typeOf aty)).before a0 Z = true) (hz : z.toInt = (n : Int)) (hcap : n ≤ cap) (hb8 : cap * 8 ≤ 536870912) (hd : decode bc pc = .ok (.newarray aty, 2)) (hp : pc + 2 = pc') (hc : cells + 1 ≤ R.cells) (hl : slots + cap ≤ R.slots)
    (k : ∀ (T' : State) (h' : Heap) (a : Addr), a = h.size → oH p l e R s m args below meth c bc ml y rt Z n0 T' h' (cells + 1) (slots + cap) → Ext h h' → oA (newarray.typeOf aty) Z h' a (List.replicate n (defaultValue (newarray.typeOf aty))) → oG p e below s n0 kc ks Q (T'.setTop (mkF m pc' L (.ref a :: S)))) : oG p e below s n0 kc ks Q (T.setTop (mkF m pc L (.int z :: S))) := by
  obtain ⟨locs, X, eT, N, hx, hby, hml, hZ, hown, hnm, hret, hlk, hn⟩ := H
  subst hp
  have e0 : (0 : Int32).toInt = 0 := rfl
  obtain ⟨T', h', kk, X', e', E, A, st⟩ := newP X hx hZ w eT (g := mkF m pc L (.int z :: S)) rfl (hb hby hd) rfl (by rw [Int32.lt_iff_toInt_lt, e0]; omega) (cap := cap) (by simp only [Int32.toNatClampNeg]; omega) hb8 hc hl
  refine oG.go st (k T' h' _ rfl ⟨locs, X', e', N, hx, hby, hml, hZ, hown, hnm, hret, hlk, hn⟩ E ⟨?_, _, A, ?_⟩)
  · have := Int32.toInt_lt z
    rw [List.length_replicate]; omega
  · show Array.replicate z.toNatClampNeg _ = _
    rw [o_nat hz, ← List.toArray_replicate]
theorem o_iaload (H : oH p l e R s m args below meth c bc ml y rt Z n0 T h cells slots) {a : Addr} {j : Int32} {vs : List Value} (i : Nat) (v : Value) (A : oA .int Z h a vs) (h0 : j.toInt = (i : Int)) (hv : vs[i]? = some v) (hd : decode bc pc = .ok (.iaload, 1)) (hp : pc + 1 = pc') (k : oG p e below s n0 kc ks Q (T.setTop (mkF m pc' L (v :: S)))) : oG p e below s n0 kc ks Q (T.setTop (mkF m pc L (.int j :: .ref a :: S))) := by
  obtain ⟨locs, X, eT, N, hx, hby, hml, hZ, hown, hnm, hret, hlk, hn⟩ := H
  subst hp
  obtain ⟨-, cl, A, r⟩ := A
  exact oG.go (fun t hr => X.iaload hx (j := j) (v := v) (by rw [eT]; exact A.1) (State.isArrayOf_alike hZ.alike A.2.1) A.2.2 (o_inb r h0 (o_lt_of hv)) (o_elt r h0 hv) (g := mkF m pc L (.int j :: .ref a :: S)) rfl rfl (hb hby hd) t hr) k
theorem o_caload (H : oH p l e R s m args below meth c bc ml y rt Z n0 T h cells slots) {a : Addr} {j : Int32} {vs : List Value} (i : Nat) (v : Value) (A : oA .char Z h a vs) (h0 : j.toInt = (i : Int)) (hv : vs[i]? = some v) (hd : decode bc pc = .ok (.caload, 1)) (hp : pc + 1 = pc') (k : oG p e below s n0 kc ks Q (T.setTop (mkF m pc' L (v :: S)))) : oG p e below s n0 kc ks Q (T.setTop (mkF m pc L (.int j :: .ref a :: S))) := by
  obtain ⟨locs, X, eT, N, hx, hby, hml, hZ, hown, hnm, hret, hlk, hn⟩ := H
  subst hp
  obtain ⟨-, cl, A, r⟩ := A
  exact oG.go (fun t hr => X.caload hx (j := j) (v := v) (by rw [eT]; exact A.1) (State.isArrayOf_alike hZ.alike A.2.1) A.2.2 (o_inb r h0 (o_lt_of hv)) (o_elt r h0 hv) (g := mkF m pc L (.int j :: .ref a :: S)) rfl rfl (hb hby hd) t hr) k
theorem o_baload (H : oH p l e R s m args below meth c bc ml y rt Z n0 T h cells slots) {a : Addr} {j : Int32} {vs : List Value} (i : Nat) (v : Value) (A : oA .byte Z h a vs) (h0 : j.toInt = (i : Int)) (hv : vs[i]? = some v) (hd : decode bc pc = .ok (.baload, 1)) (hp : pc + 1 = pc') (k : oG p e below s n0 kc ks Q (T.setTop (mkF m pc' L (v :: S)))) : oG p e below s n0 kc ks Q (T.setTop (mkF m pc L (.int j :: .ref a :: S))) := by
  obtain ⟨locs, X, eT, N, hx, hby, hml, hZ, hown, hnm, hret, hlk, hn⟩ := H
  subst hp
  obtain ⟨-, cl, A, r⟩ := A
  exact oG.go (fun t hr => X.baloadBytes hx (j := j) (v := v) (by rw [eT]; exact A.1) (State.isArrayOf_alike hZ.alike A.2.1) A.2.2 (o_inb r h0 (o_lt_of hv)) (o_elt r h0 hv) (g := mkF m pc L (.int j :: .ref a :: S)) rfl rfl (hb hby hd) t hr) k
theorem o_laload (H : oH p l e R s m args below meth c bc ml y rt Z n0 T h cells slots) {a : Addr} {j : Int32} {vs : List Value} (i : Nat) (v : Value) (A : oA .long Z h a vs) (h0 : j.toInt = (i : Int)) (hv : vs[i]? = some v) (hd : decode bc pc = .ok (.laload, 1)) (hp : pc + 1 = pc') (k : oG p e below s n0 kc ks Q (T.setTop (mkF m pc' L (v :: S)))) : oG p e below s n0 kc ks Q (T.setTop (mkF m pc L (.int j :: .ref a :: S))) := by
  obtain ⟨locs, X, eT, N, hx, hby, hml, hZ, hown, hnm, hret, hlk, hn⟩ := H
  subst hp
  obtain ⟨-, cl, A, r⟩ := A
  exact oG.go (fun t hr => X.laload hx (j := j) (v := v) (by rw [eT]; exact A.1) (State.isArrayOf_alike hZ.alike A.2.1) A.2.2 (o_inb r h0 (o_lt_of hv)) (o_elt r h0 hv) (g := mkF m pc L (.int j :: .ref a :: S)) rfl rfl (hb hby hd) t hr) k
theorem o_arraylength (H : oH p l e R s m args below meth c bc ml y rt Z n0 T h cells slots) {a : Addr} {ty : FieldType} {vs : List Value} (z : Int32) (A : oA ty Z h a vs) (hz : vs.length.toInt32 = z) (hd : decode bc pc = .ok (.arraylength, 1)) (hp : pc + 1 = pc') (k : oG p e below s n0 kc ks Q (T.setTop (mkF m pc' L (.int z :: S)))) : oG p e below s n0 kc ks Q (T.setTop (mkF m pc L (.ref a :: S))) := by
  obtain ⟨locs, X, eT, N, hx, hby, hml, hZ, hown, hnm, hret, hlk, hn⟩ := H
  subst hp
  obtain ⟨-, cl, A, r⟩ := A
  have e1 : cl.slots.size.toInt32 = z := by rw [← hz, r]; simp
  exact oG.go (fun t hr => X.arraylength hx (by rw [eT]; exact A.1) (State.isArrayOf_alike hZ.alike A.2.1) (g := mkF m pc L (.ref a :: S)) rfl rfl (hb hby hd) t (by rw [e1]; exact hr)) k
theorem o_iastore (H : oH p l e R s m args below meth c bc ml y rt Z n0 T h cells slots) {a : Addr} {j : Int32} {z : Int32} {vs : List Value} (i : Nat) (A : oA .int Z h a vs) (h0 : j.toInt = (i : Int)) (h1 : i < vs.length) (ha : n0 ≤ a) (hd : decode bc pc = .ok (.iastore, 1)) (hp : pc + 1 = pc')
    (k : ∀ (T' : State) (h' : Heap), oH p l e R s m args below meth c bc ml y rt Z n0 T' h' cells slots → Wr h h' a i (.int z) → oA .int Z h' a (vs.set i (.int z)) → oG p e below s n0 kc ks Q (T'.setTop (mkF m pc' L S))) : oG p e below s n0 kc ks Q (T.setTop (mkF m pc L (.int z :: .int j :: .ref a :: S))) := by
  obtain ⟨locs, X, eT, N, hx, hby, hml, hZ, hown, hnm, hret, hlk, hn⟩ := H
  subst hp
  have A' := A
  obtain ⟨-, cl, A, r⟩ := A
  obtain ⟨T', h', X', e', W, st⟩ := stI X hx hZ eT A (j := j) (o_inb r h0 h1) (g := mkF m pc L (.int z :: .int j :: .ref a :: S)) rfl rfl (hb hby hd)
  have en := o_nat h0
  have W2 : Wr h h' a i _ := en ▸ W
  exact oG.go st (k T' h' ⟨_, X', e', Fr.snoc X' N ha, hx, hby, hml, hZ, hown, hnm, hret, hlk, hn⟩ W2 (A'.same W2))
theorem o_castore (H : oH p l e R s m args below meth c bc ml y rt Z n0 T h cells slots) {a : Addr} {j : Int32} {z : Int32} {vs : List Value} (i : Nat) (A : oA .char Z h a vs) (h0 : j.toInt = (i : Int)) (h1 : i < vs.length) (ha : n0 ≤ a) (hd : decode bc pc = .ok (.castore, 1)) (hp : pc + 1 = pc')
    (k : ∀ (T' : State) (h' : Heap), oH p l e R s m args below meth c bc ml y rt Z n0 T' h' cells slots → Wr h h' a i (.int (nar .char z)) → oA .char Z h' a (vs.set i (.int (nar .char z))) → oG p e below s n0 kc ks Q (T'.setTop (mkF m pc' L S))) : oG p e below s n0 kc ks Q (T.setTop (mkF m pc L (.int z :: .int j :: .ref a :: S))) := by
  obtain ⟨locs, X, eT, N, hx, hby, hml, hZ, hown, hnm, hret, hlk, hn⟩ := H
  subst hp
  have A' := A
  obtain ⟨-, cl, A, r⟩ := A
  obtain ⟨T', h', X', e', W, st⟩ := stC X hx hZ eT A (j := j) (o_inb r h0 h1) (g := mkF m pc L (.int z :: .int j :: .ref a :: S)) rfl rfl (hb hby hd)
  have en := o_nat h0
  have W2 : Wr h h' a i _ := en ▸ W
  exact oG.go st (k T' h' ⟨_, X', e', Fr.snoc X' N ha, hx, hby, hml, hZ, hown, hnm, hret, hlk, hn⟩ W2 (A'.same W2))
theorem o_bastore (H : oH p l e R s m args below meth c bc ml y rt Z n0 T h cells slots) {a : Addr} {j : Int32} {z : Int32} {vs : List Value} (i : Nat) (A : oA .byte Z h a vs) (h0 : j.toInt = (i : Int)) (h1 : i < vs.length) (ha : n0 ≤ a) (hd : decode bc pc = .ok (.bastore, 1)) (hp : pc + 1 = pc')
    (k : ∀ (T' : State) (h' : Heap), oH p l e R s m args below meth c bc ml y rt Z n0 T' h' cells slots → Wr h h' a i (.int (nar .byte z)) → oA .byte Z h' a (vs.set i (.int (nar .byte z))) → oG p e below s n0 kc ks Q (T'.setTop (mkF m pc' L S))) : oG p e below s n0 kc ks Q (T.setTop (mkF m pc L (.int z :: .int j :: .ref a :: S))) := by
  obtain ⟨locs, X, eT, N, hx, hby, hml, hZ, hown, hnm, hret, hlk, hn⟩ := H
  subst hp
  have A' := A
  obtain ⟨-, cl, A, r⟩ := A
  obtain ⟨T', h', X', e', W, st⟩ := stB X hx hZ eT A (j := j) (o_inb r h0 h1) (g := mkF m pc L (.int z :: .int j :: .ref a :: S)) rfl rfl (hb hby hd)
  have en := o_nat h0
  have W2 : Wr h h' a i _ := en ▸ W
  exact oG.go st (k T' h' ⟨_, X', e', Fr.snoc X' N ha, hx, hby, hml, hZ, hown, hnm, hret, hlk, hn⟩ W2 (A'.same W2))
theorem o_lastore (H : oH p l e R s m args below meth c bc ml y rt Z n0 T h cells slots) {a : Addr} {j : Int32} {z : Int64} {vs : List Value} (i : Nat) (A : oA .long Z h a vs) (h0 : j.toInt = (i : Int)) (h1 : i < vs.length) (ha : n0 ≤ a) (hd : decode bc pc = .ok (.lastore, 1)) (hp : pc + 1 = pc')
    (k : ∀ (T' : State) (h' : Heap), oH p l e R s m args below meth c bc ml y rt Z n0 T' h' cells slots → Wr h h' a i (.long z) → oA .long Z h' a (vs.set i (.long z)) → oG p e below s n0 kc ks Q (T'.setTop (mkF m pc' L S))) : oG p e below s n0 kc ks Q (T.setTop (mkF m pc L (.long z :: .int j :: .ref a :: S))) := by
  obtain ⟨locs, X, eT, N, hx, hby, hml, hZ, hown, hnm, hret, hlk, hn⟩ := H
  subst hp
  have A' := A
  obtain ⟨-, cl, A, r⟩ := A
  obtain ⟨T', h', X', e', W, st⟩ := stJ X hx hZ eT A (j := j) (o_inb r h0 h1) (g := mkF m pc L (.long z :: .int j :: .ref a :: S)) rfl rfl (hb hby hd)
  have en := o_nat h0
  have W2 : Wr h h' a i _ := en ▸ W
  exact oG.go st (k T' h' ⟨_, X', e', Fr.snoc X' N ha, hx, hby, hml, hZ, hown, hnm, hret, hlk, hn⟩ W2 (A'.same W2))
theorem o_static (H : oH p l e R s m args below meth c bc ml y rt Z n0 T h cells slots) {yc : MethodName} {bcc : ByteArray} {maxL i : Nat} {rtc : Option FieldType} {rm : Room} {Q' : Option Value → Heap → Prop} {St : List Value} (argsL : List Value) (S : List Value)
    (con : oC l Z n0 yc bcc maxL rtc rm rm.cells rm.slots argsL.toArray h Q') (wl : (Jvm.Cond.methodLink y.cls i yc).before a0 Z = true) (ws : (Jvm.Cond.static yc).before a0 Z = true) (wz : (Jvm.Cond.initialized yc.cls).before a0 Z = true) (wc : (Jvm.Cond.code yc bcc maxL rtc).before a0 Z = true) (hy : yc.cls ≠ "java/lang/invoke/MethodHandle" ∧ yc.cls ≠ "java/lang/invoke/VarHandle") (hlen : ∀ sig, parseMethodDescriptor yc.desc = some sig → argsL.length = sig.parameters.length) (hst : St = argsL.reverse ++ S) (hsz : L.size = ml) (hf : rm.frames + 1 ≤ R.frames) (hlo : (S.map fun v => v.category).sum + (maxL + 11) + rm.locals ≤ R.locals) (hc : cells + rm.cells ≤ R.cells) (hs : slots + rm.slots ≤ R.slots)
    (hd : decode bc pc = .ok (.invokestatic i, 3)) (hp : pc + 3 = pc') (k : ∀ (T' : State) (v : Option Value) (h' : Heap), oH p l e R s m args below meth c bc ml y rt Z n0 T' h' (cells + rm.cells) (slots + rm.slots) → Q' v h' → oG p e below s n0 kc ks Q (T'.setTop (mkF m pc' L (v.toList ++ S)))) : oG p e below s n0 kc ks Q (T.setTop (mkF m pc L St)) := by
  obtain ⟨locs, X, eT, N, hx, hby, hml, hZ, hown, hnm, hret, hlk, hn⟩ := H
  subst hp
  subst hst
  obtain ⟨v, _, ⟨T', L1, k1, n1⟩, -, X', ⟨Lc, hQ, l', y', z'⟩, st⟩ := Jvm.LawKit.callS X hx (y := yc) hown (mvT hZ wl) (mvT hZ ws) (mvT hZ wz) (mvT hZ wc) hy (backOf (W := (S.map fun v => v.category).sum) (Q := fun v h L => Q' v h ∧ Fr n0 L) (con []) hZ wc wz hf hlo) (g := mkF m pc L (argsL.reverse ++ S)) rfl (by rw [hml]; exact hsz) (argsL := argsL) (rest := S) hlen rfl (by show 2 * 0 + _ ≤ _; omega) (hb hby hd) (fun _ _ => ⟨rfl, eT, hc, hs⟩)
  dsimp only [Pt.U, Pt.locs, Pt.cells, Pt.slots] at X' l' y' z' st hQ
  subst l' y' z'
  exact oG.go (st) (k _ _ _ ⟨_, X', rfl, Fr.app N hQ.2, hx, hby, hml, hZ, hown, hnm, hret, hlk, hn⟩ hQ.1)
theorem o_special (H : oH p l e R s m args below meth c bc ml y rt Z n0 T h cells slots) {yc : MethodName} {bcc : ByteArray} {maxL i : Nat} {rm : Room} {a : Addr} {Q' : Option Value → Heap → Prop} {St : List Value} (argsL : List Value) (S : List Value)
    (con : oC l Z n0 yc bcc maxL none rm rm.cells rm.slots (.ref a :: argsL).toArray h Q') (hy1 : yc.name = "<init>") (wl : (Jvm.Cond.methodLink y.cls i yc).before a0 Z = true) (ws : (Jvm.Cond.instanceMethod yc).before a0 Z = true) (wz : (Jvm.Cond.initialized yc.cls).before a0 Z = true) (wc : (Jvm.Cond.code yc bcc maxL none).before a0 Z = true) (hy : yc.cls ≠ "java/lang/invoke/MethodHandle" ∧ yc.cls ≠ "java/lang/invoke/VarHandle") (hlen : ∀ sig, parseMethodDescriptor yc.desc = some sig → argsL.length = sig.parameters.length) (hst : St = argsL.reverse ++ .ref a :: S) (hsz : L.size = ml) (hf : rm.frames + 1 ≤ R.frames) (hlo : (S.map fun v => v.category).sum + (maxL + 11) + rm.locals ≤ R.locals) (hc : cells + rm.cells ≤ R.cells) (hs : slots + rm.slots ≤ R.slots)
    (hd : decode bc pc = .ok (.invokespecial i, 3)) (hp : pc + 3 = pc') (k : ∀ (T' : State) (v : Option Value) (h' : Heap), oH p l e R s m args below meth c bc ml y rt Z n0 T' h' (cells + rm.cells) (slots + rm.slots) → Q' v h' → oG p e below s n0 kc ks Q (T'.setTop (mkF m pc' L (v.toList ++ S)))) : oG p e below s n0 kc ks Q (T.setTop (mkF m pc L St)) := by
  obtain ⟨locs, X, eT, N, hx, hby, hml, hZ, hown, hnm, hret, hlk, hn⟩ := H
  subst hp
  subst hst
  obtain ⟨v, _, ⟨T', L1, k1, n1⟩, -, X', ⟨Lc, hQ, l', y', z'⟩, st⟩ := X.specialBack hx (y := yc) hy1 hown (mvT hZ wl) (mvT hZ ws) (mvT hZ wc) hy (backOf (W := (S.map fun v => v.category).sum) (Q := fun v h L => Q' v h ∧ Fr n0 L) (con []) hZ wc wz hf hlo) (g := mkF m pc L (argsL.reverse ++ .ref a :: S)) rfl (by rw [hml]; exact hsz) (Steps.refl _) (a := a) (argsL := argsL) (rest := S) hlen rfl (by show 2 * 0 + _ ≤ _; omega) (hb hby hd) (fun _ _ => ⟨rfl, eT, hc, hs⟩)
  dsimp only [Pt.U, Pt.locs, Pt.cells, Pt.slots] at X' l' y' z' st hQ
  subst l' y' z'
  exact oG.go (fun _ hr => st.trans hr) (k _ _ _ ⟨_, X', rfl, Fr.app N hQ.2, hx, hby, hml, hZ, hown, hnm, hret, hlk, hn⟩ hQ.1)
theorem o_virtual (H : oH p l e R s m args below meth c bc ml y rt Z n0 T h cells slots) {yc zc : MethodName} {K : String} {bcc : ByteArray} {maxL i : Nat} {rtc : Option FieldType} {rm : Room} {a : Addr} {Q' : Option Value → Heap → Prop} {St : List Value} (argsL : List Value) (S : List Value)
    (con : oC l Z n0 zc bcc maxL rtc rm rm.cells rm.slots (.ref a :: argsL).toArray h Q') (E : Exa Z h a K) (wl : (Jvm.Cond.methodLink y.cls i yc).before a0 Z = true) (wd : (Jvm.Cond.declares yc).before a0 Z = true) (hnf : ∀ {s' : State}, Z.Warmed39 s'.vm → NotFace s' yc) (wsel : (Jvm.Cond.selects K yc zc).before a0 Z = true) (ws : (Jvm.Cond.instanceMethod zc).before a0 Z = true) (wz : (Jvm.Cond.initialized zc.cls).before a0 Z = true) (wc : (Jvm.Cond.code zc bcc maxL rtc).before a0 Z = true) (hy : yc.cls ≠ "java/lang/invoke/MethodHandle" ∧ yc.cls ≠ "java/lang/invoke/VarHandle") (hlen : ∀ sig, parseMethodDescriptor yc.desc = some sig → argsL.length = sig.parameters.length) (hst : St = argsL.reverse ++ .ref a :: S) (hsz : L.size = ml) (hf : rm.frames + 1 ≤ R.frames) (hlo : (S.map fun v => v.category).sum + (maxL + 11) + rm.locals ≤ R.locals) (hc : cells + rm.cells ≤ R.cells) (hs : slots + rm.slots ≤ R.slots)
    (hd : decode bc pc = .ok (.invokevirtual i, 3)) (hp : pc + 3 = pc') (k : ∀ (T' : State) (v : Option Value) (h' : Heap), oH p l e R s m args below meth c bc ml y rt Z n0 T' h' (cells + rm.cells) (slots + rm.slots) → Q' v h' → oG p e below s n0 kc ks Q (T'.setTop (mkF m pc' L (v.toList ++ S)))) : oG p e below s n0 kc ks Q (T.setTop (mkF m pc L St)) := by
  obtain ⟨locs, X, eT, N, hx, hby, hml, hZ, hown, hnm, hret, hlk, hn⟩ := H
  subst hp
  subst hst
  obtain ⟨cq, kq, qa, qb, qc⟩ := isOf hZ eT E
  obtain ⟨v, _, ⟨T', L1, k1, n1⟩, -, X', ⟨Lc, hQ, l', y', z'⟩, st⟩ := X.virtualBack hx (y := yc) (z := zc) hown (mvT hZ wl) (mvT hZ wd) (hnf hZ) (mvT hZ wsel) (mvT hZ ws) hy (backOf (W := (S.map fun v => v.category).sum) (Q := fun v h L => Q' v h ∧ Fr n0 L) (con []) hZ wc wz hf hlo) qa qc (g := mkF m pc L (argsL.reverse ++ .ref a :: S)) rfl (by rw [hml]; exact hsz) (Steps.refl _) (argsL := argsL) (rest := S) hlen rfl (by show 2 * 0 + _ ≤ _; omega) (hb hby hd) (fun _ _ => ⟨rfl, eT, hc, hs⟩)
  dsimp only [Pt.U, Pt.locs, Pt.cells, Pt.slots] at X' l' y' z' st hQ
  subst l' y' z'
  exact oG.go (fun _ hr => st.trans hr) (k _ _ _ ⟨_, X', rfl, Fr.app N hQ.2, hx, hby, hml, hZ, hown, hnm, hret, hlk, hn⟩ hQ.1)
theorem o_nf {yc : MethodName} {K : String} (w : (Jvm.Cond.selects K yc yc).before a0 Z = true) : ∀ {s' : State}, Z.Warmed39 s'.vm → NotFace s' yc := fun {s'} hZ => notFace_of_selects (args := #[]) (mvT hZ w)
theorem n_lt (x z : Int32) : x < z ↔ x.toInt < z.toInt := Int32.lt_iff_toInt_lt
theorem n_eq (x z : Int32) : x = z ↔ x.toInt = z.toInt := Int32.toInt_inj.symm
theorem n_ltJ (x z : Int64) : x < z ↔ x.toInt < z.toInt := Int64.lt_iff_toInt_lt
theorem n_eqJ (x z : Int64) : x = z ↔ x.toInt = z.toInt := Int64.toInt_inj.symm
theorem n_and (x z : Int32) (h : 0 ≤ z.toInt) : 0 ≤ (x &&& z).toInt ∧ (x &&& z).toInt ≤ z.toInt := by
  have q : (x &&& z).toBitVec.toNat = x.toBitVec.toNat &&& z.toBitVec.toNat := by show (x.toBitVec &&& z.toBitVec).toNat = _; rw [BitVec.toNat_and]
  have o : x.toBitVec.toNat &&& z.toBitVec.toNat ≤ z.toBitVec.toNat := Nat.and_le_right
  have lm := z.toBitVec.isLt
  change 0 ≤ z.toBitVec.toInt at h
  show 0 ≤ (x &&& z).toBitVec.toInt ∧ (x &&& z).toBitVec.toInt ≤ z.toBitVec.toInt
  rw [BitVec.toInt_eq_toNat_cond] at h
  simp only [BitVec.toInt_eq_toNat_cond, q]
  split at h <;> (repeat' split) <;> omega
theorem n_andJ (x z : Int64) (h : 0 ≤ z.toInt) : 0 ≤ (x &&& z).toInt ∧ (x &&& z).toInt ≤ z.toInt := by
  have q : (x &&& z).toBitVec.toNat = x.toBitVec.toNat &&& z.toBitVec.toNat := by show (x.toBitVec &&& z.toBitVec).toNat = _; rw [BitVec.toNat_and]
  have o : x.toBitVec.toNat &&& z.toBitVec.toNat ≤ z.toBitVec.toNat := Nat.and_le_right
  have lm := z.toBitVec.isLt
  change 0 ≤ z.toBitVec.toInt at h
  show 0 ≤ (x &&& z).toBitVec.toInt ∧ (x &&& z).toBitVec.toInt ≤ z.toBitVec.toInt
  rw [BitVec.toInt_eq_toNat_cond] at h
  simp only [BitVec.toInt_eq_toNat_cond, q]
  split at h <;> (repeat' split) <;> omega
theorem n_rem (x z : Int32) (d : Int) (hd : 0 < d) (hz : z.toInt = d) (hx : 0 ≤ x.toInt) : (x % z).toInt = x.toInt % d := by
  rw [Int32.toInt_mod, hz, Int.tmod_eq_emod_of_nonneg hx]
theorem n_nat (x : Int32) (n : Nat) (h0 : 0 ≤ x.toInt) (h1 : x.toInt < n) : ∃ i : Fin n, x = Int32.ofNat i.1 := by
  refine ⟨⟨x.toInt.toNat, by omega⟩, ?_⟩
  rw [n_eq]
  have := Int32.toInt_lt x
  have e : (Int32.ofNat x.toInt.toNat).toInt = x.toInt.toNat := Int32.toInt_ofNat_of_lt (by omega)
  show x.toInt = (Int32.ofNat x.toInt.toNat).toInt
  rw [e]; omega
end Own
theorem w0 {Z : State} {a0 : Array Value} (hw : ∀ d ∈ tables_1, d.before a0 Z = true) : (Jvm.Cond.arrayClass Jvm.ClassFile.FieldType.int).before a0 Z = true := hw _ (List.mem_of_getElem? (i := 0) rfl)
theorem w1 {Z : State} {a0 : Array Value} (hw : ∀ d ∈ tables_1, d.before a0 Z = true) : (Jvm.Cond.methodLink "com/example/bare_triage/baretriage/rank/TurnsTakePinLaw" (29 : Nat) ({ cls := "com/example/bare_triage/baretriage/rank/TurnsTakePinLaw", name := "rd", desc := "(J)I" } : Jvm.MethodName)).before a0 Z = true := hw _ (List.mem_of_getElem? (i := 1) rfl)
theorem w2 {Z : State} {a0 : Array Value} (hw : ∀ d ∈ tables_1, d.before a0 Z = true) : (Jvm.Cond.static ({ cls := "com/example/bare_triage/baretriage/rank/TurnsTakePinLaw", name := "rd", desc := "(J)I" } : Jvm.MethodName)).before a0 Z = true := hw _ (List.mem_of_getElem? (i := 2) rfl)
theorem w3 {Z : State} {a0 : Array Value} (hw : ∀ d ∈ tables_1, d.before a0 Z = true) : (Jvm.Cond.initialized "com/example/bare_triage/baretriage/rank/TurnsTakePinLaw").before a0 Z = true := hw _ (List.mem_of_getElem? (i := 3) rfl)
theorem w4 {Z : State} {a0 : Array Value} (hw : ∀ d ∈ tables_1, d.before a0 Z = true) : (Jvm.Cond.code ({ cls := "com/example/bare_triage/baretriage/rank/TurnsTakePinLaw", name := "rd", desc := "(J)I" } : Jvm.MethodName) method_2_code (2 : Nat) (Option.some Jvm.ClassFile.FieldType.int)).before a0 Z = true := hw _ (List.mem_of_getElem? (i := 4) rfl)
theorem w5 {Z : State} {a0 : Array Value} (hw : ∀ d ∈ tables_1, d.before a0 Z = true) : (Jvm.Cond.constant "com/example/bare_triage/baretriage/rank/TurnsTakePinLaw" (7 : Nat) (2147483647 : Int32)).before a0 Z = true := hw _ (List.mem_of_getElem? (i := 5) rfl)
theorem w6 {Z : State} {a0 : Array Value} (hw : ∀ d ∈ tables_1, d.before a0 Z = true) : (Jvm.Cond.methodLink "com/example/bare_triage/baretriage/rank/TurnsTakePinLaw" (8 : Nat) ({ cls := "java/lang/Math", name := "max", desc := "(II)I" } : Jvm.MethodName)).before a0 Z = true := hw _ (List.mem_of_getElem? (i := 6) rfl)
theorem w7 {Z : State} {a0 : Array Value} (hw : ∀ d ∈ tables_1, d.before a0 Z = true) : (Jvm.Cond.static ({ cls := "java/lang/Math", name := "max", desc := "(II)I" } : Jvm.MethodName)).before a0 Z = true := hw _ (List.mem_of_getElem? (i := 7) rfl)
theorem w8 {Z : State} {a0 : Array Value} (hw : ∀ d ∈ tables_1, d.before a0 Z = true) : (Jvm.Cond.initialized "java/lang/Math").before a0 Z = true := hw _ (List.mem_of_getElem? (i := 8) rfl)
theorem w9 {Z : State} {a0 : Array Value} (hw : ∀ d ∈ tables_1, d.before a0 Z = true) : (Jvm.Cond.code ({ cls := "java/lang/Math", name := "max", desc := "(II)I" } : Jvm.MethodName) jdk_29_method_65_code (2 : Nat) (Option.some Jvm.ClassFile.FieldType.int)).before a0 Z = true := hw _ (List.mem_of_getElem? (i := 9) rfl)
theorem w10 {Z : State} {a0 : Array Value} (hw : ∀ d ∈ tables_1, d.before a0 Z = true) : (Jvm.Cond.methodLink "com/example/bare_triage/baretriage/rank/TurnsTakePinLaw" (33 : Nat) ({ cls := "com/example/bare_triage/baretriage/rank/TurnsTakePinLaw", name := "ps", desc := "(J)I" } : Jvm.MethodName)).before a0 Z = true := hw _ (List.mem_of_getElem? (i := 10) rfl)
theorem w11 {Z : State} {a0 : Array Value} (hw : ∀ d ∈ tables_1, d.before a0 Z = true) : (Jvm.Cond.static ({ cls := "com/example/bare_triage/baretriage/rank/TurnsTakePinLaw", name := "ps", desc := "(J)I" } : Jvm.MethodName)).before a0 Z = true := hw _ (List.mem_of_getElem? (i := 11) rfl)
theorem w12 {Z : State} {a0 : Array Value} (hw : ∀ d ∈ tables_1, d.before a0 Z = true) : (Jvm.Cond.code ({ cls := "com/example/bare_triage/baretriage/rank/TurnsTakePinLaw", name := "ps", desc := "(J)I" } : Jvm.MethodName) method_3_code (2 : Nat) (Option.some Jvm.ClassFile.FieldType.int)).before a0 Z = true := hw _ (List.mem_of_getElem? (i := 12) rfl)
theorem w13 {Z : State} {a0 : Array Value} (hw : ∀ d ∈ tables_1, d.before a0 Z = true) : (Jvm.Cond.classLink "com/example/bare_triage/baretriage/rank/TurnsTakePinLaw" (21 : Nat) "com/example/bare_triage/baretriage/rank/Turns").before a0 Z = true := hw _ (List.mem_of_getElem? (i := 13) rfl)
theorem w14 {Z : State} {a0 : Array Value} (hw : ∀ d ∈ tables_1, d.before a0 Z = true) : (Jvm.Cond.instantiable "com/example/bare_triage/baretriage/rank/Turns" (3 : Nat)).before a0 Z = true := hw _ (List.mem_of_getElem? (i := 14) rfl)
theorem w15 {Z : State} {a0 : Array Value} (hw : ∀ d ∈ tables_1, d.before a0 Z = true) : (Jvm.Cond.initialized "com/example/bare_triage/baretriage/rank/Turns").before a0 Z = true := hw _ (List.mem_of_getElem? (i := 15) rfl)
theorem w16 {Z : State} {a0 : Array Value} (hw : ∀ d ∈ tables_1, d.before a0 Z = true) : (Jvm.Cond.methodLink "com/example/bare_triage/baretriage/rank/TurnsTakePinLaw" (36 : Nat) ({ cls := "com/example/bare_triage/baretriage/rank/Turns", name := "<init>", desc := "()V" } : Jvm.MethodName)).before a0 Z = true := hw _ (List.mem_of_getElem? (i := 16) rfl)
theorem w17 {Z : State} {a0 : Array Value} (hw : ∀ d ∈ tables_1, d.before a0 Z = true) : (Jvm.Cond.instanceMethod ({ cls := "com/example/bare_triage/baretriage/rank/Turns", name := "<init>", desc := "()V" } : Jvm.MethodName)).before a0 Z = true := hw _ (List.mem_of_getElem? (i := 17) rfl)
theorem w18 {Z : State} {a0 : Array Value} (hw : ∀ d ∈ tables_1, d.before a0 Z = true) : (Jvm.Cond.code ({ cls := "com/example/bare_triage/baretriage/rank/Turns", name := "<init>", desc := "()V" } : Jvm.MethodName) prog_21_method_1_code (1 : Nat) (Option.none : Option Jvm.ClassFile.FieldType)).before a0 Z = true := hw _ (List.mem_of_getElem? (i := 18) rfl)
theorem w19 {Z : State} {a0 : Array Value} (hw : ∀ d ∈ tables_1, d.before a0 Z = true) : (Jvm.Cond.methodLink "com/example/bare_triage/baretriage/rank/Turns" (1 : Nat) ({ cls := "java/lang/Object", name := "<init>", desc := "()V" } : Jvm.MethodName)).before a0 Z = true := hw _ (List.mem_of_getElem? (i := 19) rfl)
theorem w20 {Z : State} {a0 : Array Value} (hw : ∀ d ∈ tables_1, d.before a0 Z = true) : (Jvm.Cond.instanceMethod ({ cls := "java/lang/Object", name := "<init>", desc := "()V" } : Jvm.MethodName)).before a0 Z = true := hw _ (List.mem_of_getElem? (i := 20) rfl)
theorem w21 {Z : State} {a0 : Array Value} (hw : ∀ d ∈ tables_1, d.before a0 Z = true) : (Jvm.Cond.code ({ cls := "java/lang/Object", name := "<init>", desc := "()V" } : Jvm.MethodName) object_method_1_code (1 : Nat) (Option.none : Option Jvm.ClassFile.FieldType)).before a0 Z = true := hw _ (List.mem_of_getElem? (i := 21) rfl)
theorem w22 {Z : State} {a0 : Array Value} (hw : ∀ d ∈ tables_1, d.before a0 Z = true) : (Jvm.Cond.arrayClass Jvm.ClassFile.FieldType.long).before a0 Z = true := hw _ (List.mem_of_getElem? (i := 22) rfl)
theorem w23 {Z : State} {a0 : Array Value} (hw : ∀ d ∈ tables_1, d.before a0 Z = true) : (Jvm.Cond.fieldLink "com/example/bare_triage/baretriage/rank/Turns" (7 : Nat) "com/example/bare_triage/baretriage/rank/Turns" "waiting" "[J").before a0 Z = true := hw _ (List.mem_of_getElem? (i := 23) rfl)
theorem w24 {Z : State} {a0 : Array Value} (hw : ∀ d ∈ tables_1, d.before a0 Z = true) : (Jvm.Cond.lays "com/example/bare_triage/baretriage/rank/Turns" "com/example/bare_triage/baretriage/rank/Turns" "waiting" "[J").before a0 Z = true := hw _ (List.mem_of_getElem? (i := 24) rfl)
theorem w25 {Z : State} {a0 : Array Value} (hw : ∀ d ∈ tables_1, d.before a0 Z = true) : (Jvm.Cond.methodLink "com/example/bare_triage/baretriage/rank/TurnsTakePinLaw" (37 : Nat) ({ cls := "com/example/bare_triage/baretriage/rank/Turns", name := "add", desc := "(II)V" } : Jvm.MethodName)).before a0 Z = true := hw _ (List.mem_of_getElem? (i := 25) rfl)
theorem w26 {Z : State} {a0 : Array Value} (hw : ∀ d ∈ tables_1, d.before a0 Z = true) : (Jvm.Cond.declares ({ cls := "com/example/bare_triage/baretriage/rank/Turns", name := "add", desc := "(II)V" } : Jvm.MethodName)).before a0 Z = true := hw _ (List.mem_of_getElem? (i := 26) rfl)
theorem w27 {Z : State} {a0 : Array Value} (hw : ∀ d ∈ tables_1, d.before a0 Z = true) : (Jvm.Cond.instanceMethod ({ cls := "com/example/bare_triage/baretriage/rank/Turns", name := "add", desc := "(II)V" } : Jvm.MethodName)).before a0 Z = true := hw _ (List.mem_of_getElem? (i := 27) rfl)
theorem w28 {Z : State} {a0 : Array Value} (hw : ∀ d ∈ tables_1, d.before a0 Z = true) : (Jvm.Cond.selects "com/example/bare_triage/baretriage/rank/Turns" ({ cls := "com/example/bare_triage/baretriage/rank/Turns", name := "add", desc := "(II)V" } : Jvm.MethodName) ({ cls := "com/example/bare_triage/baretriage/rank/Turns", name := "add", desc := "(II)V" } : Jvm.MethodName)).before a0 Z = true := hw _ (List.mem_of_getElem? (i := 28) rfl)
theorem w29 {Z : State} {a0 : Array Value} (hw : ∀ d ∈ tables_1, d.before a0 Z = true) : (Jvm.Cond.code ({ cls := "com/example/bare_triage/baretriage/rank/Turns", name := "add", desc := "(II)V" } : Jvm.MethodName) prog_21_method_2_code (6 : Nat) (Option.none : Option Jvm.ClassFile.FieldType)).before a0 Z = true := hw _ (List.mem_of_getElem? (i := 29) rfl)
theorem w30 {Z : State} {a0 : Array Value} (hw : ∀ d ∈ tables_1, d.before a0 Z = true) : (Jvm.Cond.fieldLink "com/example/bare_triage/baretriage/rank/Turns" (13 : Nat) "com/example/bare_triage/baretriage/rank/Turns" "count" "I").before a0 Z = true := hw _ (List.mem_of_getElem? (i := 30) rfl)
theorem w31 {Z : State} {a0 : Array Value} (hw : ∀ d ∈ tables_1, d.before a0 Z = true) : (Jvm.Cond.lays "com/example/bare_triage/baretriage/rank/Turns" "com/example/bare_triage/baretriage/rank/Turns" "count" "I").before a0 Z = true := hw _ (List.mem_of_getElem? (i := 31) rfl)
theorem w32 {Z : State} {a0 : Array Value} (hw : ∀ d ∈ tables_1, d.before a0 Z = true) : (Jvm.Cond.methodLink "com/example/bare_triage/baretriage/rank/TurnsTakePinLaw" (41 : Nat) ({ cls := "com/example/bare_triage/baretriage/rank/TurnsTakePinLaw", name := "even", desc := "([I[I)V" } : Jvm.MethodName)).before a0 Z = true := hw _ (List.mem_of_getElem? (i := 32) rfl)
theorem w33 {Z : State} {a0 : Array Value} (hw : ∀ d ∈ tables_1, d.before a0 Z = true) : (Jvm.Cond.static ({ cls := "com/example/bare_triage/baretriage/rank/TurnsTakePinLaw", name := "even", desc := "([I[I)V" } : Jvm.MethodName)).before a0 Z = true := hw _ (List.mem_of_getElem? (i := 33) rfl)
theorem w34 {Z : State} {a0 : Array Value} (hw : ∀ d ∈ tables_1, d.before a0 Z = true) : (Jvm.Cond.code ({ cls := "com/example/bare_triage/baretriage/rank/TurnsTakePinLaw", name := "even", desc := "([I[I)V" } : Jvm.MethodName) method_5_code (2 : Nat) (Option.none : Option Jvm.ClassFile.FieldType)).before a0 Z = true := hw _ (List.mem_of_getElem? (i := 34) rfl)
theorem w35 {Z : State} {a0 : Array Value} (hw : ∀ d ∈ tables_1, d.before a0 Z = true) : (Jvm.Cond.methodLink "com/example/bare_triage/baretriage/rank/TurnsTakePinLaw" (14 : Nat) ({ cls := "com/example/bare_triage/baretriage/rank/TurnsTakePinLaw", name := "cx", desc := "([I[III)V" } : Jvm.MethodName)).before a0 Z = true := hw _ (List.mem_of_getElem? (i := 35) rfl)
theorem w36 {Z : State} {a0 : Array Value} (hw : ∀ d ∈ tables_1, d.before a0 Z = true) : (Jvm.Cond.static ({ cls := "com/example/bare_triage/baretriage/rank/TurnsTakePinLaw", name := "cx", desc := "([I[III)V" } : Jvm.MethodName)).before a0 Z = true := hw _ (List.mem_of_getElem? (i := 36) rfl)
theorem w37 {Z : State} {a0 : Array Value} (hw : ∀ d ∈ tables_1, d.before a0 Z = true) : (Jvm.Cond.code ({ cls := "com/example/bare_triage/baretriage/rank/TurnsTakePinLaw", name := "cx", desc := "([I[III)V" } : Jvm.MethodName) method_4_code (6 : Nat) (Option.none : Option Jvm.ClassFile.FieldType)).before a0 Z = true := hw _ (List.mem_of_getElem? (i := 37) rfl)
theorem w38 {Z : State} {a0 : Array Value} (hw : ∀ d ∈ tables_1, d.before a0 Z = true) : (Jvm.Cond.methodLink "com/example/bare_triage/baretriage/rank/TurnsTakePinLaw" (45 : Nat) ({ cls := "com/example/bare_triage/baretriage/rank/TurnsTakePinLaw", name := "odd", desc := "([I[I)V" } : Jvm.MethodName)).before a0 Z = true := hw _ (List.mem_of_getElem? (i := 38) rfl)
theorem w39 {Z : State} {a0 : Array Value} (hw : ∀ d ∈ tables_1, d.before a0 Z = true) : (Jvm.Cond.static ({ cls := "com/example/bare_triage/baretriage/rank/TurnsTakePinLaw", name := "odd", desc := "([I[I)V" } : Jvm.MethodName)).before a0 Z = true := hw _ (List.mem_of_getElem? (i := 39) rfl)
theorem w40 {Z : State} {a0 : Array Value} (hw : ∀ d ∈ tables_1, d.before a0 Z = true) : (Jvm.Cond.code ({ cls := "com/example/bare_triage/baretriage/rank/TurnsTakePinLaw", name := "odd", desc := "([I[I)V" } : Jvm.MethodName) method_6_code (2 : Nat) (Option.none : Option Jvm.ClassFile.FieldType)).before a0 Z = true := hw _ (List.mem_of_getElem? (i := 40) rfl)
theorem w41 {Z : State} {a0 : Array Value} (hw : ∀ d ∈ tables_1, d.before a0 Z = true) : (Jvm.Cond.methodLink "com/example/bare_triage/baretriage/rank/TurnsTakePinLaw" (48 : Nat) ({ cls := "com/example/bare_triage/baretriage/rank/TurnsTakePinLaw", name := "check", desc := "(Lcom/example/bare_triage/baretriage/rank/Turns;II)Z" } : Jvm.MethodName)).before a0 Z = true := hw _ (List.mem_of_getElem? (i := 41) rfl)
theorem w42 {Z : State} {a0 : Array Value} (hw : ∀ d ∈ tables_1, d.before a0 Z = true) : (Jvm.Cond.static ({ cls := "com/example/bare_triage/baretriage/rank/TurnsTakePinLaw", name := "check", desc := "(Lcom/example/bare_triage/baretriage/rank/Turns;II)Z" } : Jvm.MethodName)).before a0 Z = true := hw _ (List.mem_of_getElem? (i := 42) rfl)
theorem w43 {Z : State} {a0 : Array Value} (hw : ∀ d ∈ tables_1, d.before a0 Z = true) : (Jvm.Cond.code ({ cls := "com/example/bare_triage/baretriage/rank/TurnsTakePinLaw", name := "check", desc := "(Lcom/example/bare_triage/baretriage/rank/Turns;II)Z" } : Jvm.MethodName) method_7_code (4 : Nat) (Option.some Jvm.ClassFile.FieldType.boolean)).before a0 Z = true := hw _ (List.mem_of_getElem? (i := 43) rfl)
theorem w44 {Z : State} {a0 : Array Value} (hw : ∀ d ∈ tables_1, d.before a0 Z = true) : (Jvm.Cond.methodLink "com/example/bare_triage/baretriage/rank/TurnsTakePinLaw" (20 : Nat) ({ cls := "com/example/bare_triage/baretriage/rank/Turns", name := "take", desc := "()I" } : Jvm.MethodName)).before a0 Z = true := hw _ (List.mem_of_getElem? (i := 44) rfl)
theorem w45 {Z : State} {a0 : Array Value} (hw : ∀ d ∈ tables_1, d.before a0 Z = true) : (Jvm.Cond.declares ({ cls := "com/example/bare_triage/baretriage/rank/Turns", name := "take", desc := "()I" } : Jvm.MethodName)).before a0 Z = true := hw _ (List.mem_of_getElem? (i := 45) rfl)
theorem w46 {Z : State} {a0 : Array Value} (hw : ∀ d ∈ tables_1, d.before a0 Z = true) : (Jvm.Cond.instanceMethod ({ cls := "com/example/bare_triage/baretriage/rank/Turns", name := "take", desc := "()I" } : Jvm.MethodName)).before a0 Z = true := hw _ (List.mem_of_getElem? (i := 46) rfl)
theorem w47 {Z : State} {a0 : Array Value} (hw : ∀ d ∈ tables_1, d.before a0 Z = true) : (Jvm.Cond.selects "com/example/bare_triage/baretriage/rank/Turns" ({ cls := "com/example/bare_triage/baretriage/rank/Turns", name := "take", desc := "()I" } : Jvm.MethodName) ({ cls := "com/example/bare_triage/baretriage/rank/Turns", name := "take", desc := "()I" } : Jvm.MethodName)).before a0 Z = true := hw _ (List.mem_of_getElem? (i := 47) rfl)
theorem w48 {Z : State} {a0 : Array Value} (hw : ∀ d ∈ tables_1, d.before a0 Z = true) : (Jvm.Cond.code ({ cls := "com/example/bare_triage/baretriage/rank/Turns", name := "take", desc := "()I" } : Jvm.MethodName) prog_21_method_4_code (7 : Nat) (Option.some Jvm.ClassFile.FieldType.int)).before a0 Z = true := hw _ (List.mem_of_getElem? (i := 48) rfl)
theorem w49 {Z : State} {a0 : Array Value} (hw : ∀ d ∈ tables_1, d.before a0 Z = true) : (Jvm.Cond.fieldLink "com/example/bare_triage/baretriage/rank/Turns" (23 : Nat) "com/example/bare_triage/baretriage/rank/Turns" "round" "I").before a0 Z = true := hw _ (List.mem_of_getElem? (i := 49) rfl)
theorem w50 {Z : State} {a0 : Array Value} (hw : ∀ d ∈ tables_1, d.before a0 Z = true) : (Jvm.Cond.lays "com/example/bare_triage/baretriage/rank/Turns" "com/example/bare_triage/baretriage/rank/Turns" "round" "I").before a0 Z = true := hw _ (List.mem_of_getElem? (i := 50) rfl)
theorem w51 {Z : State} {a0 : Array Value} (hw : ∀ d ∈ tables_1, d.before a0 Z = true) : (Jvm.Cond.methodLink "com/example/bare_triage/baretriage/rank/TurnsTakePinLaw" (26 : Nat) ({ cls := "com/example/bare_triage/baretriage/rank/Turns", name := "round", desc := "()I" } : Jvm.MethodName)).before a0 Z = true := hw _ (List.mem_of_getElem? (i := 51) rfl)
theorem w52 {Z : State} {a0 : Array Value} (hw : ∀ d ∈ tables_1, d.before a0 Z = true) : (Jvm.Cond.declares ({ cls := "com/example/bare_triage/baretriage/rank/Turns", name := "round", desc := "()I" } : Jvm.MethodName)).before a0 Z = true := hw _ (List.mem_of_getElem? (i := 52) rfl)
theorem w53 {Z : State} {a0 : Array Value} (hw : ∀ d ∈ tables_1, d.before a0 Z = true) : (Jvm.Cond.instanceMethod ({ cls := "com/example/bare_triage/baretriage/rank/Turns", name := "round", desc := "()I" } : Jvm.MethodName)).before a0 Z = true := hw _ (List.mem_of_getElem? (i := 53) rfl)
theorem w54 {Z : State} {a0 : Array Value} (hw : ∀ d ∈ tables_1, d.before a0 Z = true) : (Jvm.Cond.selects "com/example/bare_triage/baretriage/rank/Turns" ({ cls := "com/example/bare_triage/baretriage/rank/Turns", name := "round", desc := "()I" } : Jvm.MethodName) ({ cls := "com/example/bare_triage/baretriage/rank/Turns", name := "round", desc := "()I" } : Jvm.MethodName)).before a0 Z = true := hw _ (List.mem_of_getElem? (i := 54) rfl)
theorem w55 {Z : State} {a0 : Array Value} (hw : ∀ d ∈ tables_1, d.before a0 Z = true) : (Jvm.Cond.code ({ cls := "com/example/bare_triage/baretriage/rank/Turns", name := "round", desc := "()I" } : Jvm.MethodName) prog_21_method_5_code (1 : Nat) (Option.some Jvm.ClassFile.FieldType.int)).before a0 Z = true := hw _ (List.mem_of_getElem? (i := 55) rfl)
theorem w56 {Z : State} {a0 : Array Value} (hw : ∀ d ∈ tables_1, d.before a0 Z = true) : (Jvm.Cond.methodLink "com/example/bare_triage/baretriage/rank/TurnsTakePinLaw" (52 : Nat) ({ cls := "com/example/bare_triage/baretriage/rank/Turns", name := "isEmpty", desc := "()Z" } : Jvm.MethodName)).before a0 Z = true := hw _ (List.mem_of_getElem? (i := 56) rfl)
theorem w57 {Z : State} {a0 : Array Value} (hw : ∀ d ∈ tables_1, d.before a0 Z = true) : (Jvm.Cond.declares ({ cls := "com/example/bare_triage/baretriage/rank/Turns", name := "isEmpty", desc := "()Z" } : Jvm.MethodName)).before a0 Z = true := hw _ (List.mem_of_getElem? (i := 57) rfl)
theorem w58 {Z : State} {a0 : Array Value} (hw : ∀ d ∈ tables_1, d.before a0 Z = true) : (Jvm.Cond.instanceMethod ({ cls := "com/example/bare_triage/baretriage/rank/Turns", name := "isEmpty", desc := "()Z" } : Jvm.MethodName)).before a0 Z = true := hw _ (List.mem_of_getElem? (i := 58) rfl)
theorem w59 {Z : State} {a0 : Array Value} (hw : ∀ d ∈ tables_1, d.before a0 Z = true) : (Jvm.Cond.selects "com/example/bare_triage/baretriage/rank/Turns" ({ cls := "com/example/bare_triage/baretriage/rank/Turns", name := "isEmpty", desc := "()Z" } : Jvm.MethodName) ({ cls := "com/example/bare_triage/baretriage/rank/Turns", name := "isEmpty", desc := "()Z" } : Jvm.MethodName)).before a0 Z = true := hw _ (List.mem_of_getElem? (i := 59) rfl)
theorem w60 {Z : State} {a0 : Array Value} (hw : ∀ d ∈ tables_1, d.before a0 Z = true) : (Jvm.Cond.code ({ cls := "com/example/bare_triage/baretriage/rank/Turns", name := "isEmpty", desc := "()Z" } : Jvm.MethodName) prog_21_method_3_code (1 : Nat) (Option.some Jvm.ClassFile.FieldType.boolean)).before a0 Z = true := hw _ (List.mem_of_getElem? (i := 60) rfl)
def own_maxI (x z : Int32) : Int32 := if x < z then z else x
def own_rd (x : Int64) : Int32 := own_maxI 1 ((XT.ushrL x 32).toInt32 &&& 2147483647)
def own_ps (x : Int64) : Int32 := x.toInt32 &&& 2147483647
/-- a turn's rank among the turns -/
def own_K (r q : Int32) : Int := r.toInt * 4294967296 + q.toInt
def own_key (r q : Int32) : Int64 := ((r.toInt64) <<< ((32 : Int32).toInt64 &&& 63)) ||| (q.toInt64)
def own_in (r q : Int32) : Prop := 0 ≤ r.toInt ∧ 0 ≤ q.toInt
/-- how many of x reach t: 1 or 0 -/
def own_c (t : Int) (x : Int64) : Nat := if t ≤ x.toInt then 1 else 0
def own_k (t : Int) (x : Int) : Nat := if t ≤ x then 1 else 0
theorem own_keyK (r q : Int32) (h : own_in r q) : (own_key r q).toInt = own_K r q := by
  have h1 := Int32.toInt_lt r; have h2 := Int32.toInt_lt q
  obtain ⟨h3, h4⟩ := h
  have e1 := c_i2l r; have e2 := c_i2l q
  have s1 := c_lshl r.toInt64 32 32 (by decide)
  have e3 : ((32 : Int32) &&& 0x3f).toInt64 = (32 : Int32).toInt64 &&& 63 := by decide
  have e4 : ((2 ^ 32 : Nat) : Int) = 4294967296 := rfl
  rw [e3, e1, e4] at s1
  have r1 := Int64.le_toInt (r.toInt64 <<< ((32 : Int32).toInt64 &&& 63)); have r2 := Int64.toInt_lt (r.toInt64 <<< ((32 : Int32).toInt64 &&& 63))
  have s2 : (r.toInt64 <<< ((32 : Int32).toInt64 &&& 63)).toInt = r.toInt * 4294967296 := by omega
  have s3 := c_orL (r.toInt64 <<< ((32 : Int32).toInt64 &&& 63)) q.toInt64 32 (by decide) 4294967296 rfl (by omega) (by omega) (by omega)
  have r3 := Int64.le_toInt (own_key r q); have r4 := Int64.toInt_lt (own_key r q)
  show (own_key r q).toInt = r.toInt * 4294967296 + q.toInt
  have s4 : ((own_key r q).toInt - ((r.toInt64 <<< ((32 : Int32).toInt64 &&& 63)).toInt + q.toInt64.toInt)) % 18446744073709551616 = 0 := s3
  omega
/-- what take gives back of a turn -/
theorem own_back (x : Int64) (r q : Int32) (h : own_in r q) (e : x.toInt = own_K r q) : x.toInt32 = q ∧ (XT.ushrL x 32).toInt32 = r := by
  have h1 := Int32.toInt_lt r; have h2 := Int32.toInt_lt q
  obtain ⟨h3, h4⟩ := h
  unfold own_K at e
  have a1 := c_l2i x
  have a2 : (XT.ushrL x 32).toInt = (x.toInt % 18446744073709551616) / 4294967296 := c_lushr x 32 32 (by decide) (by decide)
  have a3 := c_l2i (XT.ushrL x 32)
  have b1 := Int32.le_toInt x.toInt32; have b2 := Int32.toInt_lt x.toInt32
  have b3 := Int32.le_toInt (XT.ushrL x 32).toInt32; have b4 := Int32.toInt_lt (XT.ushrL x 32).toInt32
  constructor
  · rw [n_eq]; omega
  · rw [n_eq]; omega
theorem own_rd_in (x : Int64) (y : Int64) : own_in (own_rd x) (own_ps y) := by
  have h1 := c_and ((XT.ushrL x 32).toInt32) 2147483647 (by decide)
  have h2 := c_and y.toInt32 2147483647 (by decide)
  refine ⟨?_, h2.1⟩
  simp only [own_rd, own_maxI]
  split
  · exact h1.1
  · decide
theorem own_c1 {t : Int} {x : Int64} (h : t ≤ x.toInt) : own_c t x = 1 := by simp [own_c, h]
theorem own_c0 {t : Int} {x : Int64} (h : ¬ t ≤ x.toInt) : own_c t x = 0 := by simp [own_c, h]
theorem own_cle (t : Int) (x : Int64) : own_c t x ≤ 1 := by unfold own_c; split <;> omega
theorem own_k1 {t x : Int} (h : t ≤ x) : own_k t x = 1 := by simp [own_k, h]
theorem own_kle (t x : Int) : own_k t x ≤ 1 := by unfold own_k; split <;> omega
theorem own_ck (t : Int) (x : Int64) (z : Int) (e : x.toInt = z) : own_c t x = own_k t z := by simp [own_c, own_k, e]
theorem own_kmm (t a b : Int) : own_k t (min a b) + own_k t (max a b) = own_k t a + own_k t b := by
  simp only [own_k, Int.min_def, Int.max_def]
  repeat' split
  all_goals omega
theorem own_min1 (v0 : Int64) (t0 : Int)   (hc : ∀ t, own_c t v0 = own_k t t0) : v0.toInt = t0 := by
  have a1 := hc t0
  have a2 := hc v0.toInt
  skip
  have l1 : t0 ≤ v0.toInt := by
    apply Int.not_lt.mp; intro q
    rw [own_c0 (by omega : ¬ t0 ≤ v0.toInt), own_k1 (by omega : t0 ≤ t0)] at a1
    omega
  have l2 : v0.toInt ≤ t0 := by
    apply Int.not_lt.mp; intro q
    have z0 : own_k v0.toInt t0 = 0 := by simp [own_k]; omega
    rw [z0, own_c1 (by omega : v0.toInt ≤ v0.toInt)] at a2
    omega
  omega
theorem own_min2 (v0 v1 : Int64) (t0 t1 : Int) (hv1 : v0.toInt ≤ v1.toInt) (ht1 : t0 ≤ t1) (hc : ∀ t, own_c t v0 + own_c t v1 = own_k t t0 + own_k t t1) : v0.toInt = t0 := by
  have a1 := hc t0
  have a2 := hc v0.toInt
  have b1 := own_cle t0 v1
  have d1 := own_kle v0.toInt t1
  have l1 : t0 ≤ v0.toInt := by
    apply Int.not_lt.mp; intro q
    rw [own_c0 (by omega : ¬ t0 ≤ v0.toInt), own_k1 (by omega : t0 ≤ t0), own_k1 (by omega : t0 ≤ t1)] at a1
    omega
  have l2 : v0.toInt ≤ t0 := by
    apply Int.not_lt.mp; intro q
    have z0 : own_k v0.toInt t0 = 0 := by simp [own_k]; omega
    rw [z0, own_c1 (by omega : v0.toInt ≤ v0.toInt), own_c1 (by omega : v0.toInt ≤ v1.toInt)] at a2
    omega
  omega
theorem own_min3 (v0 v1 v2 : Int64) (t0 t1 t2 : Int) (hv1 : v0.toInt ≤ v1.toInt) (hv2 : v0.toInt ≤ v2.toInt) (ht1 : t0 ≤ t1) (ht2 : t0 ≤ t2) (hc : ∀ t, own_c t v0 + own_c t v1 + own_c t v2 = own_k t t0 + own_k t t1 + own_k t t2) : v0.toInt = t0 := by
  have a1 := hc t0
  have a2 := hc v0.toInt
  have b1 := own_cle t0 v1
  have b2 := own_cle t0 v2
  have d1 := own_kle v0.toInt t1
  have d2 := own_kle v0.toInt t2
  have l1 : t0 ≤ v0.toInt := by
    apply Int.not_lt.mp; intro q
    rw [own_c0 (by omega : ¬ t0 ≤ v0.toInt), own_k1 (by omega : t0 ≤ t0), own_k1 (by omega : t0 ≤ t1), own_k1 (by omega : t0 ≤ t2)] at a1
    omega
  have l2 : v0.toInt ≤ t0 := by
    apply Int.not_lt.mp; intro q
    have z0 : own_k v0.toInt t0 = 0 := by simp [own_k]; omega
    rw [z0, own_c1 (by omega : v0.toInt ≤ v0.toInt), own_c1 (by omega : v0.toInt ≤ v1.toInt), own_c1 (by omega : v0.toInt ≤ v2.toInt)] at a2
    omega
  omega
theorem own_min4 (v0 v1 v2 v3 : Int64) (t0 t1 t2 t3 : Int) (hv1 : v0.toInt ≤ v1.toInt) (hv2 : v0.toInt ≤ v2.toInt) (hv3 : v0.toInt ≤ v3.toInt) (ht1 : t0 ≤ t1) (ht2 : t0 ≤ t2) (ht3 : t0 ≤ t3) (hc : ∀ t, own_c t v0 + own_c t v1 + own_c t v2 + own_c t v3 = own_k t t0 + own_k t t1 + own_k t t2 + own_k t t3) : v0.toInt = t0 := by
  have a1 := hc t0
  have a2 := hc v0.toInt
  have b1 := own_cle t0 v1
  have b2 := own_cle t0 v2
  have b3 := own_cle t0 v3
  have d1 := own_kle v0.toInt t1
  have d2 := own_kle v0.toInt t2
  have d3 := own_kle v0.toInt t3
  have l1 : t0 ≤ v0.toInt := by
    apply Int.not_lt.mp; intro q
    rw [own_c0 (by omega : ¬ t0 ≤ v0.toInt), own_k1 (by omega : t0 ≤ t0), own_k1 (by omega : t0 ≤ t1), own_k1 (by omega : t0 ≤ t2), own_k1 (by omega : t0 ≤ t3)] at a1
    omega
  have l2 : v0.toInt ≤ t0 := by
    apply Int.not_lt.mp; intro q
    have z0 : own_k v0.toInt t0 = 0 := by simp [own_k]; omega
    rw [z0, own_c1 (by omega : v0.toInt ≤ v0.toInt), own_c1 (by omega : v0.toInt ≤ v1.toInt), own_c1 (by omega : v0.toInt ≤ v2.toInt), own_c1 (by omega : v0.toInt ≤ v3.toInt)] at a2
    omega
  omega
theorem own_min5 (v0 v1 v2 v3 v4 : Int64) (t0 t1 t2 t3 t4 : Int) (hv1 : v0.toInt ≤ v1.toInt) (hv2 : v0.toInt ≤ v2.toInt) (hv3 : v0.toInt ≤ v3.toInt) (hv4 : v0.toInt ≤ v4.toInt) (ht1 : t0 ≤ t1) (ht2 : t0 ≤ t2) (ht3 : t0 ≤ t3) (ht4 : t0 ≤ t4) (hc : ∀ t, own_c t v0 + own_c t v1 + own_c t v2 + own_c t v3 + own_c t v4 = own_k t t0 + own_k t t1 + own_k t t2 + own_k t t3 + own_k t t4) : v0.toInt = t0 := by
  have a1 := hc t0
  have a2 := hc v0.toInt
  have b1 := own_cle t0 v1
  have b2 := own_cle t0 v2
  have b3 := own_cle t0 v3
  have b4 := own_cle t0 v4
  have d1 := own_kle v0.toInt t1
  have d2 := own_kle v0.toInt t2
  have d3 := own_kle v0.toInt t3
  have d4 := own_kle v0.toInt t4
  have l1 : t0 ≤ v0.toInt := by
    apply Int.not_lt.mp; intro q
    rw [own_c0 (by omega : ¬ t0 ≤ v0.toInt), own_k1 (by omega : t0 ≤ t0), own_k1 (by omega : t0 ≤ t1), own_k1 (by omega : t0 ≤ t2), own_k1 (by omega : t0 ≤ t3), own_k1 (by omega : t0 ≤ t4)] at a1
    omega
  have l2 : v0.toInt ≤ t0 := by
    apply Int.not_lt.mp; intro q
    have z0 : own_k v0.toInt t0 = 0 := by simp [own_k]; omega
    rw [z0, own_c1 (by omega : v0.toInt ≤ v0.toInt), own_c1 (by omega : v0.toInt ≤ v1.toInt), own_c1 (by omega : v0.toInt ≤ v2.toInt), own_c1 (by omega : v0.toInt ≤ v3.toInt), own_c1 (by omega : v0.toInt ≤ v4.toInt)] at a2
    omega
  omega
theorem own_min6 (v0 v1 v2 v3 v4 v5 : Int64) (t0 t1 t2 t3 t4 t5 : Int) (hv1 : v0.toInt ≤ v1.toInt) (hv2 : v0.toInt ≤ v2.toInt) (hv3 : v0.toInt ≤ v3.toInt) (hv4 : v0.toInt ≤ v4.toInt) (hv5 : v0.toInt ≤ v5.toInt) (ht1 : t0 ≤ t1) (ht2 : t0 ≤ t2) (ht3 : t0 ≤ t3) (ht4 : t0 ≤ t4) (ht5 : t0 ≤ t5) (hc : ∀ t, own_c t v0 + own_c t v1 + own_c t v2 + own_c t v3 + own_c t v4 + own_c t v5 = own_k t t0 + own_k t t1 + own_k t t2 + own_k t t3 + own_k t t4 + own_k t t5) : v0.toInt = t0 := by
  have a1 := hc t0
  have a2 := hc v0.toInt
  have b1 := own_cle t0 v1
  have b2 := own_cle t0 v2
  have b3 := own_cle t0 v3
  have b4 := own_cle t0 v4
  have b5 := own_cle t0 v5
  have d1 := own_kle v0.toInt t1
  have d2 := own_kle v0.toInt t2
  have d3 := own_kle v0.toInt t3
  have d4 := own_kle v0.toInt t4
  have d5 := own_kle v0.toInt t5
  have l1 : t0 ≤ v0.toInt := by
    apply Int.not_lt.mp; intro q
    rw [own_c0 (by omega : ¬ t0 ≤ v0.toInt), own_k1 (by omega : t0 ≤ t0), own_k1 (by omega : t0 ≤ t1), own_k1 (by omega : t0 ≤ t2), own_k1 (by omega : t0 ≤ t3), own_k1 (by omega : t0 ≤ t4), own_k1 (by omega : t0 ≤ t5)] at a1
    omega
  have l2 : v0.toInt ≤ t0 := by
    apply Int.not_lt.mp; intro q
    have z0 : own_k v0.toInt t0 = 0 := by simp [own_k]; omega
    rw [z0, own_c1 (by omega : v0.toInt ≤ v0.toInt), own_c1 (by omega : v0.toInt ≤ v1.toInt), own_c1 (by omega : v0.toInt ≤ v2.toInt), own_c1 (by omega : v0.toInt ≤ v3.toInt), own_c1 (by omega : v0.toInt ≤ v4.toInt), own_c1 (by omega : v0.toInt ≤ v5.toInt)] at a2
    omega
  omega
def own_bnet (b0 b1 b2 b3 b4 b5 : Bool) : Bool :=
  let c0_0 := b0 && b1
  let c0_1 := b0 || b1
  let c0_2 := b2 && b3
  let c0_3 := b2 || b3
  let c0_4 := b4 && b5
  let c0_5 := b4 || b5
  let c1_1 := c0_1 && c0_2
  let c1_2 := c0_1 || c0_2
  let c1_3 := c0_3 && c0_4
  let c1_4 := c0_3 || c0_4
  let c2_0 := c0_0 && c1_1
  let c2_1 := c0_0 || c1_1
  let c2_2 := c1_2 && c1_3
  let c2_3 := c1_2 || c1_3
  let c2_4 := c1_4 && c0_5
  let c2_5 := c1_4 || c0_5
  let c3_1 := c2_1 && c2_2
  let c3_2 := c2_1 || c2_2
  let c3_3 := c2_3 && c2_4
  let c3_4 := c2_3 || c2_4
  let c4_0 := c2_0 && c3_1
  let c4_1 := c2_0 || c3_1
  let c4_2 := c3_2 && c3_3
  let c4_3 := c3_2 || c3_3
  let c4_4 := c3_4 && c2_5
  let c4_5 := c3_4 || c2_5
  let c5_1 := c4_1 && c4_2
  let c5_2 := c4_1 || c4_2
  let c5_3 := c4_3 && c4_4
  let c5_4 := c4_3 || c4_4
  (!c4_0 || c5_1) && (!c5_1 || c5_2) && (!c5_2 || c5_3) && (!c5_3 || c5_4) && (!c5_4 || c4_5)
theorem own_bnet_ok : ∀ b0 b1 b2 b3 b4 b5 : Bool, own_bnet b0 b1 b2 b3 b4 b5 = true := by decide +kernel
theorem own_tmin (t a b : Int) : decide (t ≤ min a b) = (decide (t ≤ a) && decide (t ≤ b)) := by
  rw [← Bool.decide_and]; apply decide_eq_decide.mpr; omega
theorem own_tmax (t a b : Int) : decide (t ≤ max a b) = (decide (t ≤ a) || decide (t ≤ b)) := by
  rw [← Bool.decide_or]; apply decide_eq_decide.mpr; omega
theorem own_net (x0_0 x0_1 x0_2 x0_3 x0_4 x0_5 x1_0 x1_1 x1_2 x1_3 x1_4 x1_5 x2_0 x2_1 x2_2 x2_3 x2_4 x2_5 x3_0 x3_1 x3_2 x3_3 x3_4 x3_5 x4_0 x4_1 x4_2 x4_3 x4_4 x4_5 x5_0 x5_1 x5_2 x5_3 x5_4 x5_5 x6_0 x6_1 x6_2 x6_3 x6_4 x6_5 : Int) (e0 : x1_0 = min x0_0 x0_1) (e1 : x1_1 = max x0_0 x0_1) (e2 : x1_2 = min x0_2 x0_3) (e3 : x1_3 = max x0_2 x0_3) (e4 : x1_4 = min x0_4 x0_5) (e5 : x1_5 = max x0_4 x0_5) (e6 : x2_0 = x1_0) (e7 : x2_1 = min x1_1 x1_2) (e8 : x2_2 = max x1_1 x1_2) (e9 : x2_3 = min x1_3 x1_4) (e10 : x2_4 = max x1_3 x1_4) (e11 : x2_5 = x1_5) (e12 : x3_0 = min x2_0 x2_1) (e13 : x3_1 = max x2_0 x2_1) (e14 : x3_2 = min x2_2 x2_3) (e15 : x3_3 = max x2_2 x2_3) (e16 : x3_4 = min x2_4 x2_5) (e17 : x3_5 = max x2_4 x2_5) (e18 : x4_0 = x3_0) (e19 : x4_1 = min x3_1 x3_2) (e20 : x4_2 = max x3_1 x3_2) (e21 : x4_3 = min x3_3 x3_4) (e22 : x4_4 = max x3_3 x3_4) (e23 : x4_5 = x3_5) (e24 : x5_0 = min x4_0 x4_1) (e25 : x5_1 = max x4_0 x4_1) (e26 : x5_2 = min x4_2 x4_3) (e27 : x5_3 = max x4_2 x4_3) (e28 : x5_4 = min x4_4 x4_5) (e29 : x5_5 = max x4_4 x4_5) (e30 : x6_0 = x5_0) (e31 : x6_1 = min x5_1 x5_2) (e32 : x6_2 = max x5_1 x5_2) (e33 : x6_3 = min x5_3 x5_4) (e34 : x6_4 = max x5_3 x5_4) (e35 : x6_5 = x5_5) : x6_0 ≤ x6_1 ∧ x6_1 ≤ x6_2 ∧ x6_2 ≤ x6_3 ∧ x6_3 ≤ x6_4 ∧ x6_4 ≤ x6_5 := by
  have key : ∀ t : Int, own_bnet (decide (t ≤ x0_0)) (decide (t ≤ x0_1)) (decide (t ≤ x0_2)) (decide (t ≤ x0_3)) (decide (t ≤ x0_4)) (decide (t ≤ x0_5)) = ((!decide (t ≤ x6_0) || decide (t ≤ x6_1)) && (!decide (t ≤ x6_1) || decide (t ≤ x6_2)) && (!decide (t ≤ x6_2) || decide (t ≤ x6_3)) && (!decide (t ≤ x6_3) || decide (t ≤ x6_4)) && (!decide (t ≤ x6_4) || decide (t ≤ x6_5))) := by
    intro t
    simp only [e35, e34, e33, e32, e31, e30, e29, e28, e27, e26, e25, e24, e23, e22, e21, e20, e19, e18, e17, e16, e15, e14, e13, e12, e11, e10, e9, e8, e7, e6, e5, e4, e3, e2, e1, e0, own_tmin, own_tmax, own_bnet]
  have k2 : ∀ t : Int, ((!decide (t ≤ x6_0) || decide (t ≤ x6_1)) && (!decide (t ≤ x6_1) || decide (t ≤ x6_2)) && (!decide (t ≤ x6_2) || decide (t ≤ x6_3)) && (!decide (t ≤ x6_3) || decide (t ≤ x6_4)) && (!decide (t ≤ x6_4) || decide (t ≤ x6_5))) = true := fun t => by rw [← key t]; exact own_bnet_ok _ _ _ _ _ _
  clear key e0 e1 e2 e3 e4 e5 e6 e7 e8 e9 e10 e11 e12 e13 e14 e15 e16 e17 e18 e19 e20 e21 e22 e23 e24 e25 e26 e27 e28 e29 e30 e31 e32 e33 e34 e35
  refine ⟨?_, ?_, ?_, ?_, ?_⟩
  · have q := k2 x6_0
    simp only [Bool.and_eq_true, Bool.or_eq_true, Bool.not_eq_true', decide_eq_true_eq, decide_eq_false_iff_not] at q
    omega
  · have q := k2 x6_1
    simp only [Bool.and_eq_true, Bool.or_eq_true, Bool.not_eq_true', decide_eq_true_eq, decide_eq_false_iff_not] at q
    omega
  · have q := k2 x6_2
    simp only [Bool.and_eq_true, Bool.or_eq_true, Bool.not_eq_true', decide_eq_true_eq, decide_eq_false_iff_not] at q
    omega
  · have q := k2 x6_3
    simp only [Bool.and_eq_true, Bool.or_eq_true, Bool.not_eq_true', decide_eq_true_eq, decide_eq_false_iff_not] at q
    omega
  · have q := k2 x6_4
    simp only [Bool.and_eq_true, Bool.or_eq_true, Bool.not_eq_true', decide_eq_true_eq, decide_eq_false_iff_not] at q
    omega
theorem own_cnt (x0_0 x0_1 x0_2 x0_3 x0_4 x0_5 x1_0 x1_1 x1_2 x1_3 x1_4 x1_5 x2_0 x2_1 x2_2 x2_3 x2_4 x2_5 x3_0 x3_1 x3_2 x3_3 x3_4 x3_5 x4_0 x4_1 x4_2 x4_3 x4_4 x4_5 x5_0 x5_1 x5_2 x5_3 x5_4 x5_5 x6_0 x6_1 x6_2 x6_3 x6_4 x6_5 : Int) (e0 : x1_0 = min x0_0 x0_1) (e1 : x1_1 = max x0_0 x0_1) (e2 : x1_2 = min x0_2 x0_3) (e3 : x1_3 = max x0_2 x0_3) (e4 : x1_4 = min x0_4 x0_5) (e5 : x1_5 = max x0_4 x0_5) (e6 : x2_0 = x1_0) (e7 : x2_1 = min x1_1 x1_2) (e8 : x2_2 = max x1_1 x1_2) (e9 : x2_3 = min x1_3 x1_4) (e10 : x2_4 = max x1_3 x1_4) (e11 : x2_5 = x1_5) (e12 : x3_0 = min x2_0 x2_1) (e13 : x3_1 = max x2_0 x2_1) (e14 : x3_2 = min x2_2 x2_3) (e15 : x3_3 = max x2_2 x2_3) (e16 : x3_4 = min x2_4 x2_5) (e17 : x3_5 = max x2_4 x2_5) (e18 : x4_0 = x3_0) (e19 : x4_1 = min x3_1 x3_2) (e20 : x4_2 = max x3_1 x3_2) (e21 : x4_3 = min x3_3 x3_4) (e22 : x4_4 = max x3_3 x3_4) (e23 : x4_5 = x3_5) (e24 : x5_0 = min x4_0 x4_1) (e25 : x5_1 = max x4_0 x4_1) (e26 : x5_2 = min x4_2 x4_3) (e27 : x5_3 = max x4_2 x4_3) (e28 : x5_4 = min x4_4 x4_5) (e29 : x5_5 = max x4_4 x4_5) (e30 : x6_0 = x5_0) (e31 : x6_1 = min x5_1 x5_2) (e32 : x6_2 = max x5_1 x5_2) (e33 : x6_3 = min x5_3 x5_4) (e34 : x6_4 = max x5_3 x5_4) (e35 : x6_5 = x5_5) : ∀ t : Int, own_k t x6_0 + own_k t x6_1 + own_k t x6_2 + own_k t x6_3 + own_k t x6_4 + own_k t x6_5 = own_k t x0_0 + own_k t x0_1 + own_k t x0_2 + own_k t x0_3 + own_k t x0_4 + own_k t x0_5 := by
  intro t
  have m0_0 : own_k t x1_0 + own_k t x1_1 = own_k t x0_0 + own_k t x0_1 := by rw [e0, e1]; exact own_kmm t _ _
  have m0_2 : own_k t x1_2 + own_k t x1_3 = own_k t x0_2 + own_k t x0_3 := by rw [e2, e3]; exact own_kmm t _ _
  have m0_4 : own_k t x1_4 + own_k t x1_5 = own_k t x0_4 + own_k t x0_5 := by rw [e4, e5]; exact own_kmm t _ _
  have m1_1 : own_k t x2_1 + own_k t x2_2 = own_k t x1_1 + own_k t x1_2 := by rw [e7, e8]; exact own_kmm t _ _
  have m1_3 : own_k t x2_3 + own_k t x2_4 = own_k t x1_3 + own_k t x1_4 := by rw [e9, e10]; exact own_kmm t _ _
  have m1_0 : own_k t x2_0 = own_k t x1_0 := by rw [e6]
  have m1_5 : own_k t x2_5 = own_k t x1_5 := by rw [e11]
  have m2_0 : own_k t x3_0 + own_k t x3_1 = own_k t x2_0 + own_k t x2_1 := by rw [e12, e13]; exact own_kmm t _ _
  have m2_2 : own_k t x3_2 + own_k t x3_3 = own_k t x2_2 + own_k t x2_3 := by rw [e14, e15]; exact own_kmm t _ _
  have m2_4 : own_k t x3_4 + own_k t x3_5 = own_k t x2_4 + own_k t x2_5 := by rw [e16, e17]; exact own_kmm t _ _
  have m3_1 : own_k t x4_1 + own_k t x4_2 = own_k t x3_1 + own_k t x3_2 := by rw [e19, e20]; exact own_kmm t _ _
  have m3_3 : own_k t x4_3 + own_k t x4_4 = own_k t x3_3 + own_k t x3_4 := by rw [e21, e22]; exact own_kmm t _ _
  have m3_0 : own_k t x4_0 = own_k t x3_0 := by rw [e18]
  have m3_5 : own_k t x4_5 = own_k t x3_5 := by rw [e23]
  have m4_0 : own_k t x5_0 + own_k t x5_1 = own_k t x4_0 + own_k t x4_1 := by rw [e24, e25]; exact own_kmm t _ _
  have m4_2 : own_k t x5_2 + own_k t x5_3 = own_k t x4_2 + own_k t x4_3 := by rw [e26, e27]; exact own_kmm t _ _
  have m4_4 : own_k t x5_4 + own_k t x5_5 = own_k t x4_4 + own_k t x4_5 := by rw [e28, e29]; exact own_kmm t _ _
  have m5_1 : own_k t x6_1 + own_k t x6_2 = own_k t x5_1 + own_k t x5_2 := by rw [e31, e32]; exact own_kmm t _ _
  have m5_3 : own_k t x6_3 + own_k t x6_4 = own_k t x5_3 + own_k t x5_4 := by rw [e33, e34]; exact own_kmm t _ _
  have m5_0 : own_k t x6_0 = own_k t x5_0 := by rw [e30]
  have m5_5 : own_k t x6_5 = own_k t x5_5 := by rw [e35]
  clear e0 e1 e2 e3 e4 e5 e6 e7 e8 e9 e10 e11 e12 e13 e14 e15 e16 e17 e18 e19 e20 e21 e22 e23 e24 e25 e26 e27 e28 e29 e30 e31 e32 e33 e34 e35
  omega
theorem d2_0 : decode jdk_29_method_65_code 0 = .ok (.iload_n 0, 1) := by decide +kernel
theorem d2_1 : decode jdk_29_method_65_code 1 = .ok (.iload_n 1, 1) := by decide +kernel
theorem d2_2 : decode jdk_29_method_65_code 2 = .ok (.if_icmp .lt 7, 3) := by decide +kernel
theorem d2_5 : decode jdk_29_method_65_code 5 = .ok (.iload_n 0, 1) := by decide +kernel
theorem d2_6 : decode jdk_29_method_65_code 6 = .ok (.goto 4, 3) := by decide +kernel
theorem d2_9 : decode jdk_29_method_65_code 9 = .ok (.iload_n 1, 1) := by decide +kernel
theorem d2_10 : decode jdk_29_method_65_code 10 = .ok (.ireturn, 1) := by decide +kernel
theorem pn2 : plainFor (⟨"java/lang/Math", "max", "(II)I"⟩ : MethodName) = true := Jvm.Free.JP.mathPlain rfl (by decide +kernel)
theorem pd2 : parseMethodDescriptor "(II)I" = some ⟨[.int, .int], some .int⟩ := by decide +kernel
theorem d1_0 : decode method_2_code 0 = .ok (.iconst 1, 1) := by decide +kernel
theorem d1_1 : decode method_2_code 1 = .ok (.lload_n 0, 1) := by decide +kernel
theorem d1_2 : decode method_2_code 2 = .ok (.bipush 32, 2) := by decide +kernel
theorem d1_4 : decode method_2_code 4 = .ok (.lushr, 1) := by decide +kernel
theorem d1_5 : decode method_2_code 5 = .ok (.l2i, 1) := by decide +kernel
theorem d1_6 : decode method_2_code 6 = .ok (.ldc 7, 2) := by decide +kernel
theorem d1_8 : decode method_2_code 8 = .ok (.iand, 1) := by decide +kernel
theorem d1_9 : decode method_2_code 9 = .ok (.invokestatic 8, 3) := by decide +kernel
theorem d1_12 : decode method_2_code 12 = .ok (.ireturn, 1) := by decide +kernel
theorem pn1 : plainFor (⟨"com/example/bare_triage/baretriage/rank/TurnsTakePinLaw", "rd", "(J)I"⟩ : MethodName) = true := plainFor_of_name (by first | (simp [plainName, overriddenIn]; done) | decide +kernel)
theorem pd1 : parseMethodDescriptor "(J)I" = some ⟨[.long], some .int⟩ := by decide +kernel
theorem d3_0 : decode method_3_code 0 = .ok (.lload_n 0, 1) := by decide +kernel
theorem d3_1 : decode method_3_code 1 = .ok (.l2i, 1) := by decide +kernel
theorem d3_2 : decode method_3_code 2 = .ok (.ldc 7, 2) := by decide +kernel
theorem d3_4 : decode method_3_code 4 = .ok (.iand, 1) := by decide +kernel
theorem d3_5 : decode method_3_code 5 = .ok (.ireturn, 1) := by decide +kernel
theorem pn3 : plainFor (⟨"com/example/bare_triage/baretriage/rank/TurnsTakePinLaw", "ps", "(J)I"⟩ : MethodName) = true := plainFor_of_name (by first | (simp [plainName, overriddenIn]; done) | decide +kernel)
theorem pd3 : parseMethodDescriptor "(J)I" = some ⟨[.long], some .int⟩ := by decide +kernel
set_option maxRecDepth 65536 in
set_option maxHeartbeats 40000000 in
theorem rm2 (l : Launch) (Z : State) (a0 : Array Value) (hw : ∀ d ∈ tables_1, d.before a0 Z = true) (p1 : Int32) (p2 : Int32)  (h0 : Heap) (n0 : Nat) (Z0 : n0 ≤ h0.size)  :
    oC l Z n0 (⟨"java/lang/Math", "max", "(II)I"⟩ : MethodName) jdk_29_method_65_code 2 (some .int) ({ frames := 0, cells := 0, slots := 0, locals := 0 } : Room) 0 0 #[(.int p1), (.int p2)] h0 (fun v h => v = some (.int (own_maxI p1 p2)) ∧ h0 = h) := by
  refine oC.of (L := #[.val (.int p1), .val (.int p2)]) pn2 Z0 (fun m => by first | (simp [entryFrame, mkF, argsToLocals, Value.category]; done) | rfl) ?_
  intro p e s m below meth c T H
  refine o_iloadN H rfl d2_0 rfl ?_
  refine o_iloadN H rfl d2_1 rfl ?_
  refine o_icmp_lt H d2_2 (pt := 9) (by decide) (by decide) rfl ?_ ?_
  · intro c2_1
    refine o_iloadN H rfl d2_9 rfl ?_
    exact o_ireturn H rfl d2_10 (by decide) (by decide) ⟨by simp [own_maxI, c2_1], rfl⟩
  · intro c2_1
    refine o_iloadN H rfl d2_5 rfl ?_
    refine o_goto H d2_6 (pt := 10) (by decide) (by decide) ?_
    exact o_ireturn H rfl d2_10 (by decide) (by decide) ⟨by simp [own_maxI, c2_1], rfl⟩
set_option maxRecDepth 65536 in
set_option maxHeartbeats 40000000 in
theorem rm1 (l : Launch) (Z : State) (a0 : Array Value) (hw : ∀ d ∈ tables_1, d.before a0 Z = true) (p1 : Int64)  (h0 : Heap) (n0 : Nat) (Z0 : n0 ≤ h0.size)  :
    oC l Z n0 (⟨"com/example/bare_triage/baretriage/rank/TurnsTakePinLaw", "rd", "(J)I"⟩ : MethodName) method_2_code 2 (some .int) ({ frames := 1, cells := 0, slots := 0, locals := 13 } : Room) 0 0 #[(.long p1)] h0 (fun v h => v = some (.int (own_rd p1)) ∧ h0 = h) := by
  refine oC.of (L := #[.val (.long p1), .second]) pn1 Z0 (fun m => by first | (simp [entryFrame, mkF, argsToLocals, Value.category]; done) | rfl) ?_
  intro p e s m below meth c T H
  refine o_iconst H (1 : Int32) rfl d1_0 rfl ?_
  refine o_lloadN H rfl d1_1 rfl ?_
  refine o_bipush H (32 : Int32) rfl d1_2 rfl ?_
  refine o_lushr H d1_4 rfl ?_
  refine o_l2i H d1_5 rfl ?_
  refine o_ldcI H (2147483647 : Int32) (w5 hw) d1_6 rfl ?_
  refine o_iand H d1_8 rfl ?_
  refine o_static H [(.int (1 : Int32)), (.int (((XT.ushrL p1 (32 : Int32)).toInt32) &&& (2147483647 : Int32)))] [] (rm2 l Z a0 hw (1 : Int32) (((XT.ushrL p1 (32 : Int32)).toInt32) &&& (2147483647 : Int32)) h0 n0 H.le) (w6 hw) (w7 hw) (w8 hw) (w9 hw) (by decide) (lenOf pd2 rfl) rfl rfl (by decide) (Nat.le_of_ble_eq_true rfl) (by decide) (by decide) d1_9 rfl ?_
  intro T1 v1 h1 H1 q1
  obtain ⟨rfl, rfl⟩ := q1
  show oG p e below s n0 _ _ _ (T1.setTop (mkF m 12 #[.val (.long p1), .second] [(.int (own_maxI (1 : Int32) (((XT.ushrL p1 (32 : Int32)).toInt32) &&& (2147483647 : Int32))))]))
  exact o_ireturn H1 rfl d1_12 (by decide) (by decide) ⟨rfl, rfl⟩
set_option maxRecDepth 65536 in
set_option maxHeartbeats 40000000 in
theorem rm3 (l : Launch) (Z : State) (a0 : Array Value) (hw : ∀ d ∈ tables_1, d.before a0 Z = true) (p1 : Int64)  (h0 : Heap) (n0 : Nat) (Z0 : n0 ≤ h0.size)  :
    oC l Z n0 (⟨"com/example/bare_triage/baretriage/rank/TurnsTakePinLaw", "ps", "(J)I"⟩ : MethodName) method_3_code 2 (some .int) ({ frames := 0, cells := 0, slots := 0, locals := 0 } : Room) 0 0 #[(.long p1)] h0 (fun v h => v = some (.int (own_ps p1)) ∧ h0 = h) := by
  refine oC.of (L := #[.val (.long p1), .second]) pn3 Z0 (fun m => by first | (simp [entryFrame, mkF, argsToLocals, Value.category]; done) | rfl) ?_
  intro p e s m below meth c T H
  refine o_lloadN H rfl d3_0 rfl ?_
  refine o_l2i H d3_1 rfl ?_
  refine o_ldcI H (2147483647 : Int32) (w5 hw) d3_2 rfl ?_
  refine o_iand H d3_4 rfl ?_
  exact o_ireturn H rfl d3_5 (by decide) (by decide) ⟨rfl, rfl⟩
theorem d4_0 : decode prog_21_method_1_code 0 = .ok (.aload_n 0, 1) := by decide +kernel
theorem d4_1 : decode prog_21_method_1_code 1 = .ok (.invokespecial 1, 3) := by decide +kernel
theorem d4_4 : decode prog_21_method_1_code 4 = .ok (.aload_n 0, 1) := by decide +kernel
theorem d4_5 : decode prog_21_method_1_code 5 = .ok (.bipush 16, 2) := by decide +kernel
theorem d4_7 : decode prog_21_method_1_code 7 = .ok (.newarray .long, 2) := by decide +kernel
theorem d4_9 : decode prog_21_method_1_code 9 = .ok (.putfield 7, 3) := by decide +kernel
theorem d4_12 : decode prog_21_method_1_code 12 = .ok (.return_, 1) := by decide +kernel
theorem pn4 : plainFor (⟨"com/example/bare_triage/baretriage/rank/Turns", "<init>", "()V"⟩ : MethodName) = true := plainFor_of_name (by first | (simp [plainName, overriddenIn]; done) | decide +kernel)
theorem pd4 : parseMethodDescriptor "()V" = some ⟨[], none⟩ := by decide +kernel
set_option maxRecDepth 65536 in
set_option maxHeartbeats 40000000 in
theorem rm4 (l : Launch) (Z : State) (a0 : Array Value) (hw : ∀ d ∈ tables_1, d.before a0 Z = true) (a1 : Addr)  (h0 : Heap) (n0 : Nat) (Z0 : n0 ≤ h0.size) (E_a1 : Exa Z h0 a1 "com/example/bare_triage/baretriage/rank/Turns") (g_a1 : n0 ≤ a1) (F_waiting_a1 : Fld Z h0 a1 "com/example/bare_triage/baretriage/rank/Turns" "waiting" "[J" .null) (F_count_a1 : Fld Z h0 a1 "com/example/bare_triage/baretriage/rank/Turns" "count" "I" (.int (0 : Int32))) (F_round_a1 : Fld Z h0 a1 "com/example/bare_triage/baretriage/rank/Turns" "round" "I" (.int (0 : Int32))) :
    oC l Z n0 (⟨"com/example/bare_triage/baretriage/rank/Turns", "<init>", "()V"⟩ : MethodName) prog_21_method_1_code 1 none ({ frames := 1, cells := 1, slots := 16, locals := 12 } : Room) 1 16 #[(.ref a1)] h0 (fun v h => v = none ∧ Keep h0 h [a1] ∧ ∃ b, h0.size ≤ b ∧ Fld Z h a1 "com/example/bare_triage/baretriage/rank/Turns" "waiting" "[J" (.ref b) ∧ Fld Z h a1 "com/example/bare_triage/baretriage/rank/Turns" "count" "I" (.int (0 : Int32)) ∧ Fld Z h a1 "com/example/bare_triage/baretriage/rank/Turns" "round" "I" (.int (0 : Int32)) ∧ oA .long Z h b [(.long (0 : Int64)), (.long (0 : Int64)), (.long (0 : Int64)), (.long (0 : Int64)), (.long (0 : Int64)), (.long (0 : Int64)), (.long (0 : Int64)), (.long (0 : Int64)), (.long (0 : Int64)), (.long (0 : Int64)), (.long (0 : Int64)), (.long (0 : Int64)), (.long (0 : Int64)), (.long (0 : Int64)), (.long (0 : Int64)), (.long (0 : Int64))]) := by
  refine oC.of (L := #[.val (.ref a1)]) pn4 Z0 (fun m => by first | (simp [entryFrame, mkF, argsToLocals, Value.category]; done) | rfl) ?_
  intro p e s m below meth c T H
  refine o_aloadN H rfl rfl d4_0 rfl ?_
  refine o_initO H (w19 hw) (w20 hw) (w21 hw) d4_1 rfl rfl (by decide) (Nat.le_of_ble_eq_true rfl) ?_
  intro T1 H2
  refine o_aloadN H2 rfl rfl d4_4 rfl ?_
  refine o_bipush H2 (16 : Int32) rfl d4_5 rfl ?_
  refine o_newarr (aty := .long) H2 16 16 (w22 hw) (by decide) (by decide) (by decide) d4_7 rfl (by decide) (by decide) ?_
  intro T3 h3 b3 g3 H3 E3 A3
  have ne3_a1 : a1 ≠ b3 := by rw [g3]; exact Nat.ne_of_lt (E_a1).lt
  have z3 : n0 ≤ b3 := by rw [g3]; exact H2.le
  have y3 : h0.size ≤ b3 := by rw [g3]; exact (Keep.refl h0 [a1]).1
  have k4 := (Keep.refl h0 [a1]).ext E3
  have f5 := E_a1.ext E3
  have f6 := F_waiting_a1.ext E3
  have f7 := F_count_a1.ext E3
  have f8 := F_round_a1.ext E3
  have f9 : oA .long Z h3 b3 [(.long 0), (.long 0), (.long 0), (.long 0), (.long 0), (.long 0), (.long 0), (.long 0), (.long 0), (.long 0), (.long 0), (.long 0), (.long 0), (.long 0), (.long 0), (.long 0)] := A3
  refine o_putF H3 (host := "") (Or.inl (w23 hw)) f6 f5 (Or.inl (w24 hw)) (w14 hw) (ty := (.array .long)) (by decide) rfl rfl g_a1 d4_9 rfl ?_
  intro T10 h10 H10 W10
  have k11 := k4.wr W10 (Or.inl (by simp))
  have f12 := f5.wr W10
  have f13 := f6.same W10
  have f14 := f7.other W10 (Or.inr (slot_ne (Or.inl (w31 hw)) (Or.inl (w24 hw)) (by decide) (t := .int) (t' := (.array .long)) (by decide) (by decide)))
  have f15 := f8.other W10 (Or.inr (slot_ne (Or.inl (w50 hw)) (Or.inl (w24 hw)) (by decide) (t := .int) (t' := (.array .long)) (by decide) (by decide)))
  have f16 := f9.other W10 (Ne.symm ne3_a1)
  exact o_return H10 rfl d4_12 (by decide) (by decide) ⟨rfl, k11, _, y3, f13, f14, f15, f16⟩
theorem d6_0 : decode prog_21_method_2_code 0 = .ok (.aload_n 0, 1) := by decide +kernel
theorem d6_1 : decode prog_21_method_2_code 1 = .ok (.getfield 13, 3) := by decide +kernel
theorem d6_4 : decode prog_21_method_2_code 4 = .ok (.aload_n 0, 1) := by decide +kernel
theorem d6_5 : decode prog_21_method_2_code 5 = .ok (.getfield 7, 3) := by decide +kernel
theorem d6_8 : decode prog_21_method_2_code 8 = .ok (.arraylength, 1) := by decide +kernel
theorem d6_9 : decode prog_21_method_2_code 9 = .ok (.if_icmp .ne 20, 3) := by decide +kernel
theorem d6_29 : decode prog_21_method_2_code 29 = .ok (.iload_n 1, 1) := by decide +kernel
theorem d6_30 : decode prog_21_method_2_code 30 = .ok (.i2l, 1) := by decide +kernel
theorem d6_31 : decode prog_21_method_2_code 31 = .ok (.bipush 32, 2) := by decide +kernel
theorem d6_33 : decode prog_21_method_2_code 33 = .ok (.lshl, 1) := by decide +kernel
theorem d6_34 : decode prog_21_method_2_code 34 = .ok (.iload_n 2, 1) := by decide +kernel
theorem d6_35 : decode prog_21_method_2_code 35 = .ok (.i2l, 1) := by decide +kernel
theorem d6_36 : decode prog_21_method_2_code 36 = .ok (.lor, 1) := by decide +kernel
theorem d6_37 : decode prog_21_method_2_code 37 = .ok (.lstore_n 3, 1) := by decide +kernel
theorem d6_38 : decode prog_21_method_2_code 38 = .ok (.aload_n 0, 1) := by decide +kernel
theorem d6_39 : decode prog_21_method_2_code 39 = .ok (.dup, 1) := by decide +kernel
theorem d6_40 : decode prog_21_method_2_code 40 = .ok (.getfield 13, 3) := by decide +kernel
theorem d6_43 : decode prog_21_method_2_code 43 = .ok (.dup_x1, 1) := by decide +kernel
theorem d6_44 : decode prog_21_method_2_code 44 = .ok (.iconst 1, 1) := by decide +kernel
theorem d6_45 : decode prog_21_method_2_code 45 = .ok (.iadd, 1) := by decide +kernel
theorem d6_46 : decode prog_21_method_2_code 46 = .ok (.putfield 13, 3) := by decide +kernel
theorem d6_49 : decode prog_21_method_2_code 49 = .ok (.istore 5, 2) := by decide +kernel
theorem d6_51 : decode prog_21_method_2_code 51 = .ok (.iload 5, 2) := by decide +kernel
theorem d6_53 : decode prog_21_method_2_code 53 = .ok (.ifCond .le 48, 3) := by decide +kernel
theorem d6_56 : decode prog_21_method_2_code 56 = .ok (.aload_n 0, 1) := by decide +kernel
theorem d6_57 : decode prog_21_method_2_code 57 = .ok (.getfield 7, 3) := by decide +kernel
theorem d6_60 : decode prog_21_method_2_code 60 = .ok (.iload 5, 2) := by decide +kernel
theorem d6_62 : decode prog_21_method_2_code 62 = .ok (.iconst 1, 1) := by decide +kernel
theorem d6_63 : decode prog_21_method_2_code 63 = .ok (.isub, 1) := by decide +kernel
theorem d6_64 : decode prog_21_method_2_code 64 = .ok (.iconst 2, 1) := by decide +kernel
theorem d6_65 : decode prog_21_method_2_code 65 = .ok (.idiv, 1) := by decide +kernel
theorem d6_66 : decode prog_21_method_2_code 66 = .ok (.laload, 1) := by decide +kernel
theorem d6_67 : decode prog_21_method_2_code 67 = .ok (.lload_n 3, 1) := by decide +kernel
theorem d6_68 : decode prog_21_method_2_code 68 = .ok (.lcmp, 1) := by decide +kernel
theorem d6_69 : decode prog_21_method_2_code 69 = .ok (.ifCond .le 32, 3) := by decide +kernel
theorem d6_72 : decode prog_21_method_2_code 72 = .ok (.aload_n 0, 1) := by decide +kernel
theorem d6_73 : decode prog_21_method_2_code 73 = .ok (.getfield 7, 3) := by decide +kernel
theorem d6_76 : decode prog_21_method_2_code 76 = .ok (.iload 5, 2) := by decide +kernel
theorem d6_78 : decode prog_21_method_2_code 78 = .ok (.aload_n 0, 1) := by decide +kernel
theorem d6_79 : decode prog_21_method_2_code 79 = .ok (.getfield 7, 3) := by decide +kernel
theorem d6_82 : decode prog_21_method_2_code 82 = .ok (.iload 5, 2) := by decide +kernel
theorem d6_84 : decode prog_21_method_2_code 84 = .ok (.iconst 1, 1) := by decide +kernel
theorem d6_85 : decode prog_21_method_2_code 85 = .ok (.isub, 1) := by decide +kernel
theorem d6_86 : decode prog_21_method_2_code 86 = .ok (.iconst 2, 1) := by decide +kernel
theorem d6_87 : decode prog_21_method_2_code 87 = .ok (.idiv, 1) := by decide +kernel
theorem d6_88 : decode prog_21_method_2_code 88 = .ok (.laload, 1) := by decide +kernel
theorem d6_89 : decode prog_21_method_2_code 89 = .ok (.lastore, 1) := by decide +kernel
theorem d6_90 : decode prog_21_method_2_code 90 = .ok (.iload 5, 2) := by decide +kernel
theorem d6_92 : decode prog_21_method_2_code 92 = .ok (.iconst 1, 1) := by decide +kernel
theorem d6_93 : decode prog_21_method_2_code 93 = .ok (.isub, 1) := by decide +kernel
theorem d6_94 : decode prog_21_method_2_code 94 = .ok (.iconst 2, 1) := by decide +kernel
theorem d6_95 : decode prog_21_method_2_code 95 = .ok (.idiv, 1) := by decide +kernel
theorem d6_96 : decode prog_21_method_2_code 96 = .ok (.istore 5, 2) := by decide +kernel
theorem d6_98 : decode prog_21_method_2_code 98 = .ok (.goto (-47), 3) := by decide +kernel
theorem d6_101 : decode prog_21_method_2_code 101 = .ok (.aload_n 0, 1) := by decide +kernel
theorem d6_102 : decode prog_21_method_2_code 102 = .ok (.getfield 7, 3) := by decide +kernel
theorem d6_105 : decode prog_21_method_2_code 105 = .ok (.iload 5, 2) := by decide +kernel
theorem d6_107 : decode prog_21_method_2_code 107 = .ok (.lload_n 3, 1) := by decide +kernel
theorem d6_108 : decode prog_21_method_2_code 108 = .ok (.lastore, 1) := by decide +kernel
theorem d6_109 : decode prog_21_method_2_code 109 = .ok (.return_, 1) := by decide +kernel
theorem pn6 : plainFor (⟨"com/example/bare_triage/baretriage/rank/Turns", "add", "(II)V"⟩ : MethodName) = true := plainFor_of_name (by first | (simp [plainName, overriddenIn]; done) | decide +kernel)
theorem pd6 : parseMethodDescriptor "(II)V" = some ⟨[.int, .int], none⟩ := by decide +kernel
set_option maxRecDepth 65536 in
set_option maxHeartbeats 40000000 in
theorem rm6_0 (l : Launch) (Z : State) (a0 : Array Value) (hw : ∀ d ∈ tables_1, d.before a0 Z = true) (a1 : Addr) (p1 : Int32) (p2 : Int32) (b : Addr) (q0 : Int32)  (h0 : Heap) (n0 : Nat) (Z0 : n0 ≤ h0.size) (E_a1 : Exa Z h0 a1 "com/example/bare_triage/baretriage/rank/Turns") (g_a1 : n0 ≤ a1) (F_waiting_a1 : Fld Z h0 a1 "com/example/bare_triage/baretriage/rank/Turns" "waiting" "[J" (.ref b)) (F_count_a1 : Fld Z h0 a1 "com/example/bare_triage/baretriage/rank/Turns" "count" "I" (.int (0 : Int32))) (F_round_a1 : Fld Z h0 a1 "com/example/bare_triage/baretriage/rank/Turns" "round" "I" (.int q0)) (g_b : n0 ≤ b) (ne : a1 ≠ b) (A_b : oA .long Z h0 b [(.long (0 : Int64)), (.long (0 : Int64)), (.long (0 : Int64)), (.long (0 : Int64)), (.long (0 : Int64)), (.long (0 : Int64)), (.long (0 : Int64)), (.long (0 : Int64)), (.long (0 : Int64)), (.long (0 : Int64)), (.long (0 : Int64)), (.long (0 : Int64)), (.long (0 : Int64)), (.long (0 : Int64)), (.long (0 : Int64)), (.long (0 : Int64))]) :
    oC l Z n0 (⟨"com/example/bare_triage/baretriage/rank/Turns", "add", "(II)V"⟩ : MethodName) prog_21_method_2_code 6 none ({ frames := 0, cells := 0, slots := 0, locals := 0 } : Room) 0 0 #[(.ref a1), (.int p1), (.int p2)] h0 (fun v h => v = none ∧ Keep h0 h [a1, b] ∧ Fld Z h a1 "com/example/bare_triage/baretriage/rank/Turns" "waiting" "[J" (.ref b) ∧ Fld Z h a1 "com/example/bare_triage/baretriage/rank/Turns" "count" "I" (.int (1 : Int32)) ∧ Fld Z h a1 "com/example/bare_triage/baretriage/rank/Turns" "round" "I" (.int q0) ∧ ∃ u0 : Int64, oA .long Z h b [(.long u0), (.long (0 : Int64)), (.long (0 : Int64)), (.long (0 : Int64)), (.long (0 : Int64)), (.long (0 : Int64)), (.long (0 : Int64)), (.long (0 : Int64)), (.long (0 : Int64)), (.long (0 : Int64)), (.long (0 : Int64)), (.long (0 : Int64)), (.long (0 : Int64)), (.long (0 : Int64)), (.long (0 : Int64)), (.long (0 : Int64))] ∧ (True) ∧ ∀ t, own_c t u0 = own_c t (own_key p1 p2)) := by
  refine oC.of (L := #[.val (.ref a1), .val (.int p1), .val (.int p2), .unset, .unset, .unset]) pn6 Z0 (fun m => by first | (simp [entryFrame, mkF, argsToLocals, Value.category]; done) | rfl) ?_
  intro p e s m below meth c T H
  refine o_aloadN H rfl rfl d6_0 rfl ?_
  refine o_getF H (host := "") (Or.inl (w30 hw)) F_count_a1 d6_1 rfl ?_
  intro T1 H2
  refine o_aloadN H2 rfl rfl d6_4 rfl ?_
  refine o_getF H2 (host := "") (Or.inl (w23 hw)) F_waiting_a1 d6_5 rfl ?_
  intro T3 H4
  refine o_arraylength H4 (16 : Int32) A_b rfl d6_8 rfl ?_
  refine o_icmp_t H4 d6_9 (by decide) (pt := 29) (by decide) (by decide) ?_
  refine o_iloadN H4 rfl d6_29 rfl ?_
  refine o_i2l H4 d6_30 rfl ?_
  refine o_bipush H4 (32 : Int32) rfl d6_31 rfl ?_
  refine o_lshl H4 d6_33 rfl ?_
  refine o_iloadN H4 rfl d6_34 rfl ?_
  refine o_i2l H4 d6_35 rfl ?_
  refine o_lor H4 d6_36 rfl ?_
  obtain ⟨ky, e_ky⟩ : ∃ z : Int64, z = (((p1.toInt64) <<< ((32 : Int32).toInt64 &&& 63)) ||| (p2.toInt64)) := ⟨_, rfl⟩
  rw [← e_ky]
  refine o_lstoreN H4 (L' := #[.val (.ref a1), .val (.int p1), .val (.int p2), .val (.long ky), .second, .unset]) rfl d6_37 rfl ?_
  refine o_aloadN H4 rfl rfl d6_38 rfl ?_
  refine o_dup H4 rfl d6_39 rfl ?_
  refine o_getF H4 (host := "") (Or.inl (w30 hw)) F_count_a1 d6_40 rfl ?_
  intro T5 H6
  refine o_dup_x1 H6 rfl rfl d6_43 rfl ?_
  refine o_iconst H6 (1 : Int32) rfl d6_44 rfl ?_
  refine o_iadd H6 d6_45 rfl ?_
  refine o_fold (1 : Int32) (by decide) ?_
  refine o_putF H6 (host := "") (Or.inl (w30 hw)) F_count_a1 E_a1 (Or.inl (w31 hw)) (w14 hw) (ty := .int) (by decide) rfl rfl g_a1 d6_46 rfl ?_
  intro T7 h7 H7 W7
  have k8 := (Keep.refl h0 [a1, b]).wr W7 (Or.inl (by simp))
  have f9 := E_a1.wr W7
  have f10 := F_waiting_a1.other W7 (Or.inr (slot_ne (Or.inl (w24 hw)) (Or.inl (w31 hw)) (by decide) (t := (.array .long)) (t' := .int) (by decide) (by decide)))
  have f11 := F_count_a1.same W7
  have f12 := F_round_a1.other W7 (Or.inr (slot_ne (Or.inl (w50 hw)) (Or.inl (w31 hw)) (by decide) (t := .int) (t' := .int) (by decide) (by decide)))
  have f13 := A_b.other W7 (Ne.symm ne)
  refine o_istore H7 (L' := #[.val (.ref a1), .val (.int p1), .val (.int p2), .val (.long ky), .second, .val (.int (0 : Int32))]) rfl d6_49 rfl ?_
  refine o_iload H7 rfl d6_51 rfl ?_
  refine o_if_t H7 d6_53 (by decide) (pt := 101) (by decide) (by decide) ?_
  refine o_aloadN H7 rfl rfl d6_101 rfl ?_
  refine o_getF H7 (host := "") (Or.inl (w23 hw)) f10 d6_102 rfl ?_
  intro T14 H15
  refine o_iload H15 rfl d6_105 rfl ?_
  refine o_lloadN H15 rfl d6_107 rfl ?_
  refine o_lastore H15 0 f13 (by decide) (Nat.le_of_ble_eq_true rfl) g_b d6_108 rfl ?_
  intro T16 h16 H16 W16 A16
  have k17 := k8.wr W16 (Or.inl (by simp))
  have f18 := f9.wr W16
  have f19 := f10.other W16 (Or.inl ne)
  have f20 := f11.other W16 (Or.inl ne)
  have f21 := f12.other W16 (Or.inl ne)
  have f22 : oA .long Z h16 b [(.long ky), (.long (0 : Int64)), (.long (0 : Int64)), (.long (0 : Int64)), (.long (0 : Int64)), (.long (0 : Int64)), (.long (0 : Int64)), (.long (0 : Int64)), (.long (0 : Int64)), (.long (0 : Int64)), (.long (0 : Int64)), (.long (0 : Int64)), (.long (0 : Int64)), (.long (0 : Int64)), (.long (0 : Int64)), (.long (0 : Int64))] := A16
  have hh : True := trivial
  exact o_return H16 rfl d6_109 (by decide) (by decide) ⟨rfl, k17, f19, f20, f21, _, f22, hh, fun t => by (have e9 : own_key p1 p2 = ky := e_ky.symm); (simp only [e9])⟩
set_option maxRecDepth 65536 in
set_option maxHeartbeats 40000000 in
theorem rm6_1 (l : Launch) (Z : State) (a0 : Array Value) (hw : ∀ d ∈ tables_1, d.before a0 Z = true) (a1 : Addr) (p1 : Int32) (p2 : Int32) (b : Addr) (q0 : Int32) (w0 : Int64) (h0 : Heap) (n0 : Nat) (Z0 : n0 ≤ h0.size) (E_a1 : Exa Z h0 a1 "com/example/bare_triage/baretriage/rank/Turns") (g_a1 : n0 ≤ a1) (F_waiting_a1 : Fld Z h0 a1 "com/example/bare_triage/baretriage/rank/Turns" "waiting" "[J" (.ref b)) (F_count_a1 : Fld Z h0 a1 "com/example/bare_triage/baretriage/rank/Turns" "count" "I" (.int (1 : Int32))) (F_round_a1 : Fld Z h0 a1 "com/example/bare_triage/baretriage/rank/Turns" "round" "I" (.int q0)) (g_b : n0 ≤ b) (ne : a1 ≠ b) (A_b : oA .long Z h0 b [(.long w0), (.long (0 : Int64)), (.long (0 : Int64)), (.long (0 : Int64)), (.long (0 : Int64)), (.long (0 : Int64)), (.long (0 : Int64)), (.long (0 : Int64)), (.long (0 : Int64)), (.long (0 : Int64)), (.long (0 : Int64)), (.long (0 : Int64)), (.long (0 : Int64)), (.long (0 : Int64)), (.long (0 : Int64)), (.long (0 : Int64))]) :
    oC l Z n0 (⟨"com/example/bare_triage/baretriage/rank/Turns", "add", "(II)V"⟩ : MethodName) prog_21_method_2_code 6 none ({ frames := 0, cells := 0, slots := 0, locals := 0 } : Room) 0 0 #[(.ref a1), (.int p1), (.int p2)] h0 (fun v h => v = none ∧ Keep h0 h [a1, b] ∧ Fld Z h a1 "com/example/bare_triage/baretriage/rank/Turns" "waiting" "[J" (.ref b) ∧ Fld Z h a1 "com/example/bare_triage/baretriage/rank/Turns" "count" "I" (.int (2 : Int32)) ∧ Fld Z h a1 "com/example/bare_triage/baretriage/rank/Turns" "round" "I" (.int q0) ∧ ∃ u0 u1 : Int64, oA .long Z h b [(.long u0), (.long u1), (.long (0 : Int64)), (.long (0 : Int64)), (.long (0 : Int64)), (.long (0 : Int64)), (.long (0 : Int64)), (.long (0 : Int64)), (.long (0 : Int64)), (.long (0 : Int64)), (.long (0 : Int64)), (.long (0 : Int64)), (.long (0 : Int64)), (.long (0 : Int64)), (.long (0 : Int64)), (.long (0 : Int64))] ∧ (u0.toInt ≤ u1.toInt) ∧ ∀ t, own_c t u0 + own_c t u1 = own_c t (own_key p1 p2) + own_c t w0) := by
  refine oC.of (L := #[.val (.ref a1), .val (.int p1), .val (.int p2), .unset, .unset, .unset]) pn6 Z0 (fun m => by first | (simp [entryFrame, mkF, argsToLocals, Value.category]; done) | rfl) ?_
  intro p e s m below meth c T H
  refine o_aloadN H rfl rfl d6_0 rfl ?_
  refine o_getF H (host := "") (Or.inl (w30 hw)) F_count_a1 d6_1 rfl ?_
  intro T1 H2
  refine o_aloadN H2 rfl rfl d6_4 rfl ?_
  refine o_getF H2 (host := "") (Or.inl (w23 hw)) F_waiting_a1 d6_5 rfl ?_
  intro T3 H4
  refine o_arraylength H4 (16 : Int32) A_b rfl d6_8 rfl ?_
  refine o_icmp_t H4 d6_9 (by decide) (pt := 29) (by decide) (by decide) ?_
  refine o_iloadN H4 rfl d6_29 rfl ?_
  refine o_i2l H4 d6_30 rfl ?_
  refine o_bipush H4 (32 : Int32) rfl d6_31 rfl ?_
  refine o_lshl H4 d6_33 rfl ?_
  refine o_iloadN H4 rfl d6_34 rfl ?_
  refine o_i2l H4 d6_35 rfl ?_
  refine o_lor H4 d6_36 rfl ?_
  obtain ⟨ky, e_ky⟩ : ∃ z : Int64, z = (((p1.toInt64) <<< ((32 : Int32).toInt64 &&& 63)) ||| (p2.toInt64)) := ⟨_, rfl⟩
  rw [← e_ky]
  refine o_lstoreN H4 (L' := #[.val (.ref a1), .val (.int p1), .val (.int p2), .val (.long ky), .second, .unset]) rfl d6_37 rfl ?_
  refine o_aloadN H4 rfl rfl d6_38 rfl ?_
  refine o_dup H4 rfl d6_39 rfl ?_
  refine o_getF H4 (host := "") (Or.inl (w30 hw)) F_count_a1 d6_40 rfl ?_
  intro T5 H6
  refine o_dup_x1 H6 rfl rfl d6_43 rfl ?_
  refine o_iconst H6 (1 : Int32) rfl d6_44 rfl ?_
  refine o_iadd H6 d6_45 rfl ?_
  refine o_fold (2 : Int32) (by decide) ?_
  refine o_putF H6 (host := "") (Or.inl (w30 hw)) F_count_a1 E_a1 (Or.inl (w31 hw)) (w14 hw) (ty := .int) (by decide) rfl rfl g_a1 d6_46 rfl ?_
  intro T7 h7 H7 W7
  have k8 := (Keep.refl h0 [a1, b]).wr W7 (Or.inl (by simp))
  have f9 := E_a1.wr W7
  have f10 := F_waiting_a1.other W7 (Or.inr (slot_ne (Or.inl (w24 hw)) (Or.inl (w31 hw)) (by decide) (t := (.array .long)) (t' := .int) (by decide) (by decide)))
  have f11 := F_count_a1.same W7
  have f12 := F_round_a1.other W7 (Or.inr (slot_ne (Or.inl (w50 hw)) (Or.inl (w31 hw)) (by decide) (t := .int) (t' := .int) (by decide) (by decide)))
  have f13 := A_b.other W7 (Ne.symm ne)
  refine o_istore H7 (L' := #[.val (.ref a1), .val (.int p1), .val (.int p2), .val (.long ky), .second, .val (.int (1 : Int32))]) rfl d6_49 rfl ?_
  refine o_iload H7 rfl d6_51 rfl ?_
  refine o_if_f H7 d6_53 (by decide) rfl ?_
  refine o_aloadN H7 rfl rfl d6_56 rfl ?_
  refine o_getF H7 (host := "") (Or.inl (w23 hw)) f10 d6_57 rfl ?_
  intro T14 H15
  refine o_iload H15 rfl d6_60 rfl ?_
  refine o_iconst H15 (1 : Int32) rfl d6_62 rfl ?_
  refine o_isub H15 d6_63 rfl ?_
  refine o_fold (0 : Int32) (by decide) ?_
  refine o_iconst H15 (2 : Int32) rfl d6_64 rfl ?_
  refine o_idiv H15 (by decide) d6_65 rfl ?_
  refine o_fold (0 : Int32) (by decide) ?_
  refine o_laload H15 0 (.long w0) f13 (by decide) rfl d6_66 rfl ?_
  refine o_lloadN H15 rfl d6_67 rfl ?_
  refine o_lcmp H15 d6_68 rfl ?_
  refine o_ifl_le H15 d6_69 (pt := 101) (by decide) (by decide) rfl ?_ ?_
  · intro c69_16
    refine o_aloadN H15 rfl rfl d6_101 rfl ?_
    refine o_getF H15 (host := "") (Or.inl (w23 hw)) f10 d6_102 rfl ?_
    intro T17 H18
    refine o_iload H18 rfl d6_105 rfl ?_
    refine o_lloadN H18 rfl d6_107 rfl ?_
    refine o_lastore H18 1 f13 (by decide) (Nat.le_of_ble_eq_true rfl) g_b d6_108 rfl ?_
    intro T19 h19 H19 W19 A19
    have k20 := k8.wr W19 (Or.inl (by simp))
    have f21 := f9.wr W19
    have f22 := f10.other W19 (Or.inl ne)
    have f23 := f11.other W19 (Or.inl ne)
    have f24 := f12.other W19 (Or.inl ne)
    have f25 : oA .long Z h19 b [(.long w0), (.long ky), (.long (0 : Int64)), (.long (0 : Int64)), (.long (0 : Int64)), (.long (0 : Int64)), (.long (0 : Int64)), (.long (0 : Int64)), (.long (0 : Int64)), (.long (0 : Int64)), (.long (0 : Int64)), (.long (0 : Int64)), (.long (0 : Int64)), (.long (0 : Int64)), (.long (0 : Int64)), (.long (0 : Int64))] := A19
    rw [n_ltJ] at c69_16
    have hh : w0.toInt ≤ ky.toInt := by omega
    exact o_return H19 rfl d6_109 (by decide) (by decide) ⟨rfl, k20, f22, f23, f24, _, _, f25, hh, fun t => by (have e9 : own_key p1 p2 = ky := e_ky.symm); (simp only [e9]); (try omega)⟩
  · intro c69_16
    refine o_aloadN H15 rfl rfl d6_72 rfl ?_
    refine o_getF H15 (host := "") (Or.inl (w23 hw)) f10 d6_73 rfl ?_
    intro T26 H27
    refine o_iload H27 rfl d6_76 rfl ?_
    refine o_aloadN H27 rfl rfl d6_78 rfl ?_
    refine o_getF H27 (host := "") (Or.inl (w23 hw)) f10 d6_79 rfl ?_
    intro T28 H29
    refine o_iload H29 rfl d6_82 rfl ?_
    refine o_iconst H29 (1 : Int32) rfl d6_84 rfl ?_
    refine o_isub H29 d6_85 rfl ?_
    refine o_fold (0 : Int32) (by decide) ?_
    refine o_iconst H29 (2 : Int32) rfl d6_86 rfl ?_
    refine o_idiv H29 (by decide) d6_87 rfl ?_
    refine o_fold (0 : Int32) (by decide) ?_
    refine o_laload H29 0 (.long w0) f13 (by decide) rfl d6_88 rfl ?_
    refine o_lastore H29 1 f13 (by decide) (Nat.le_of_ble_eq_true rfl) g_b d6_89 rfl ?_
    intro T30 h30 H30 W30 A30
    have k31 := k8.wr W30 (Or.inl (by simp))
    have f32 := f9.wr W30
    have f33 := f10.other W30 (Or.inl ne)
    have f34 := f11.other W30 (Or.inl ne)
    have f35 := f12.other W30 (Or.inl ne)
    have f36 : oA .long Z h30 b [(.long w0), (.long w0), (.long (0 : Int64)), (.long (0 : Int64)), (.long (0 : Int64)), (.long (0 : Int64)), (.long (0 : Int64)), (.long (0 : Int64)), (.long (0 : Int64)), (.long (0 : Int64)), (.long (0 : Int64)), (.long (0 : Int64)), (.long (0 : Int64)), (.long (0 : Int64)), (.long (0 : Int64)), (.long (0 : Int64))] := A30
    refine o_iload H30 rfl d6_90 rfl ?_
    refine o_iconst H30 (1 : Int32) rfl d6_92 rfl ?_
    refine o_isub H30 d6_93 rfl ?_
    refine o_fold (0 : Int32) (by decide) ?_
    refine o_iconst H30 (2 : Int32) rfl d6_94 rfl ?_
    refine o_idiv H30 (by decide) d6_95 rfl ?_
    refine o_fold (0 : Int32) (by decide) ?_
    refine o_istore H30 (L' := #[.val (.ref a1), .val (.int p1), .val (.int p2), .val (.long ky), .second, .val (.int (0 : Int32))]) rfl d6_96 rfl ?_
    refine o_goto H30 d6_98 (pt := 51) (by decide) (by decide) ?_
    refine o_iload H30 rfl d6_51 rfl ?_
    refine o_if_t H30 d6_53 (by decide) (pt := 101) (by decide) (by decide) ?_
    refine o_aloadN H30 rfl rfl d6_101 rfl ?_
    refine o_getF H30 (host := "") (Or.inl (w23 hw)) f33 d6_102 rfl ?_
    intro T37 H38
    refine o_iload H38 rfl d6_105 rfl ?_
    refine o_lloadN H38 rfl d6_107 rfl ?_
    refine o_lastore H38 0 f36 (by decide) (Nat.le_of_ble_eq_true rfl) g_b d6_108 rfl ?_
    intro T39 h39 H39 W39 A39
    have k40 := k31.wr W39 (Or.inl (by simp))
    have f41 := f32.wr W39
    have f42 := f33.other W39 (Or.inl ne)
    have f43 := f34.other W39 (Or.inl ne)
    have f44 := f35.other W39 (Or.inl ne)
    have f45 : oA .long Z h39 b [(.long ky), (.long w0), (.long (0 : Int64)), (.long (0 : Int64)), (.long (0 : Int64)), (.long (0 : Int64)), (.long (0 : Int64)), (.long (0 : Int64)), (.long (0 : Int64)), (.long (0 : Int64)), (.long (0 : Int64)), (.long (0 : Int64)), (.long (0 : Int64)), (.long (0 : Int64)), (.long (0 : Int64)), (.long (0 : Int64))] := A39
    rw [n_ltJ] at c69_16
    have hh : ky.toInt ≤ w0.toInt := by omega
    exact o_return H39 rfl d6_109 (by decide) (by decide) ⟨rfl, k40, f42, f43, f44, _, _, f45, hh, fun t => by (have e9 : own_key p1 p2 = ky := e_ky.symm); (simp only [e9]); (try omega)⟩
set_option maxRecDepth 65536 in
set_option maxHeartbeats 40000000 in
theorem rm6_2 (l : Launch) (Z : State) (a0 : Array Value) (hw : ∀ d ∈ tables_1, d.before a0 Z = true) (a1 : Addr) (p1 : Int32) (p2 : Int32) (b : Addr) (q0 : Int32) (w0 : Int64) (w1 : Int64) (h0 : Heap) (n0 : Nat) (Z0 : n0 ≤ h0.size) (E_a1 : Exa Z h0 a1 "com/example/bare_triage/baretriage/rank/Turns") (g_a1 : n0 ≤ a1) (F_waiting_a1 : Fld Z h0 a1 "com/example/bare_triage/baretriage/rank/Turns" "waiting" "[J" (.ref b)) (F_count_a1 : Fld Z h0 a1 "com/example/bare_triage/baretriage/rank/Turns" "count" "I" (.int (2 : Int32))) (F_round_a1 : Fld Z h0 a1 "com/example/bare_triage/baretriage/rank/Turns" "round" "I" (.int q0)) (g_b : n0 ≤ b) (ne : a1 ≠ b) (A_b : oA .long Z h0 b [(.long w0), (.long w1), (.long (0 : Int64)), (.long (0 : Int64)), (.long (0 : Int64)), (.long (0 : Int64)), (.long (0 : Int64)), (.long (0 : Int64)), (.long (0 : Int64)), (.long (0 : Int64)), (.long (0 : Int64)), (.long (0 : Int64)), (.long (0 : Int64)), (.long (0 : Int64)), (.long (0 : Int64)), (.long (0 : Int64))]) (hp : w0.toInt ≤ w1.toInt) :
    oC l Z n0 (⟨"com/example/bare_triage/baretriage/rank/Turns", "add", "(II)V"⟩ : MethodName) prog_21_method_2_code 6 none ({ frames := 0, cells := 0, slots := 0, locals := 0 } : Room) 0 0 #[(.ref a1), (.int p1), (.int p2)] h0 (fun v h => v = none ∧ Keep h0 h [a1, b] ∧ Fld Z h a1 "com/example/bare_triage/baretriage/rank/Turns" "waiting" "[J" (.ref b) ∧ Fld Z h a1 "com/example/bare_triage/baretriage/rank/Turns" "count" "I" (.int (3 : Int32)) ∧ Fld Z h a1 "com/example/bare_triage/baretriage/rank/Turns" "round" "I" (.int q0) ∧ ∃ u0 u1 u2 : Int64, oA .long Z h b [(.long u0), (.long u1), (.long u2), (.long (0 : Int64)), (.long (0 : Int64)), (.long (0 : Int64)), (.long (0 : Int64)), (.long (0 : Int64)), (.long (0 : Int64)), (.long (0 : Int64)), (.long (0 : Int64)), (.long (0 : Int64)), (.long (0 : Int64)), (.long (0 : Int64)), (.long (0 : Int64)), (.long (0 : Int64))] ∧ (u0.toInt ≤ u1.toInt ∧ u0.toInt ≤ u2.toInt) ∧ ∀ t, own_c t u0 + own_c t u1 + own_c t u2 = own_c t (own_key p1 p2) + own_c t w0 + own_c t w1) := by
  refine oC.of (L := #[.val (.ref a1), .val (.int p1), .val (.int p2), .unset, .unset, .unset]) pn6 Z0 (fun m => by first | (simp [entryFrame, mkF, argsToLocals, Value.category]; done) | rfl) ?_
  intro p e s m below meth c T H
  refine o_aloadN H rfl rfl d6_0 rfl ?_
  refine o_getF H (host := "") (Or.inl (w30 hw)) F_count_a1 d6_1 rfl ?_
  intro T1 H2
  refine o_aloadN H2 rfl rfl d6_4 rfl ?_
  refine o_getF H2 (host := "") (Or.inl (w23 hw)) F_waiting_a1 d6_5 rfl ?_
  intro T3 H4
  refine o_arraylength H4 (16 : Int32) A_b rfl d6_8 rfl ?_
  refine o_icmp_t H4 d6_9 (by decide) (pt := 29) (by decide) (by decide) ?_
  refine o_iloadN H4 rfl d6_29 rfl ?_
  refine o_i2l H4 d6_30 rfl ?_
  refine o_bipush H4 (32 : Int32) rfl d6_31 rfl ?_
  refine o_lshl H4 d6_33 rfl ?_
  refine o_iloadN H4 rfl d6_34 rfl ?_
  refine o_i2l H4 d6_35 rfl ?_
  refine o_lor H4 d6_36 rfl ?_
  obtain ⟨ky, e_ky⟩ : ∃ z : Int64, z = (((p1.toInt64) <<< ((32 : Int32).toInt64 &&& 63)) ||| (p2.toInt64)) := ⟨_, rfl⟩
  rw [← e_ky]
  refine o_lstoreN H4 (L' := #[.val (.ref a1), .val (.int p1), .val (.int p2), .val (.long ky), .second, .unset]) rfl d6_37 rfl ?_
  refine o_aloadN H4 rfl rfl d6_38 rfl ?_
  refine o_dup H4 rfl d6_39 rfl ?_
  refine o_getF H4 (host := "") (Or.inl (w30 hw)) F_count_a1 d6_40 rfl ?_
  intro T5 H6
  refine o_dup_x1 H6 rfl rfl d6_43 rfl ?_
  refine o_iconst H6 (1 : Int32) rfl d6_44 rfl ?_
  refine o_iadd H6 d6_45 rfl ?_
  refine o_fold (3 : Int32) (by decide) ?_
  refine o_putF H6 (host := "") (Or.inl (w30 hw)) F_count_a1 E_a1 (Or.inl (w31 hw)) (w14 hw) (ty := .int) (by decide) rfl rfl g_a1 d6_46 rfl ?_
  intro T7 h7 H7 W7
  have k8 := (Keep.refl h0 [a1, b]).wr W7 (Or.inl (by simp))
  have f9 := E_a1.wr W7
  have f10 := F_waiting_a1.other W7 (Or.inr (slot_ne (Or.inl (w24 hw)) (Or.inl (w31 hw)) (by decide) (t := (.array .long)) (t' := .int) (by decide) (by decide)))
  have f11 := F_count_a1.same W7
  have f12 := F_round_a1.other W7 (Or.inr (slot_ne (Or.inl (w50 hw)) (Or.inl (w31 hw)) (by decide) (t := .int) (t' := .int) (by decide) (by decide)))
  have f13 := A_b.other W7 (Ne.symm ne)
  refine o_istore H7 (L' := #[.val (.ref a1), .val (.int p1), .val (.int p2), .val (.long ky), .second, .val (.int (2 : Int32))]) rfl d6_49 rfl ?_
  refine o_iload H7 rfl d6_51 rfl ?_
  refine o_if_f H7 d6_53 (by decide) rfl ?_
  refine o_aloadN H7 rfl rfl d6_56 rfl ?_
  refine o_getF H7 (host := "") (Or.inl (w23 hw)) f10 d6_57 rfl ?_
  intro T14 H15
  refine o_iload H15 rfl d6_60 rfl ?_
  refine o_iconst H15 (1 : Int32) rfl d6_62 rfl ?_
  refine o_isub H15 d6_63 rfl ?_
  refine o_fold (1 : Int32) (by decide) ?_
  refine o_iconst H15 (2 : Int32) rfl d6_64 rfl ?_
  refine o_idiv H15 (by decide) d6_65 rfl ?_
  refine o_fold (0 : Int32) (by decide) ?_
  refine o_laload H15 0 (.long w0) f13 (by decide) rfl d6_66 rfl ?_
  refine o_lloadN H15 rfl d6_67 rfl ?_
  refine o_lcmp H15 d6_68 rfl ?_
  refine o_ifl_le H15 d6_69 (pt := 101) (by decide) (by decide) rfl ?_ ?_
  · intro c69_16
    refine o_aloadN H15 rfl rfl d6_101 rfl ?_
    refine o_getF H15 (host := "") (Or.inl (w23 hw)) f10 d6_102 rfl ?_
    intro T17 H18
    refine o_iload H18 rfl d6_105 rfl ?_
    refine o_lloadN H18 rfl d6_107 rfl ?_
    refine o_lastore H18 2 f13 (by decide) (Nat.le_of_ble_eq_true rfl) g_b d6_108 rfl ?_
    intro T19 h19 H19 W19 A19
    have k20 := k8.wr W19 (Or.inl (by simp))
    have f21 := f9.wr W19
    have f22 := f10.other W19 (Or.inl ne)
    have f23 := f11.other W19 (Or.inl ne)
    have f24 := f12.other W19 (Or.inl ne)
    have f25 : oA .long Z h19 b [(.long w0), (.long w1), (.long ky), (.long (0 : Int64)), (.long (0 : Int64)), (.long (0 : Int64)), (.long (0 : Int64)), (.long (0 : Int64)), (.long (0 : Int64)), (.long (0 : Int64)), (.long (0 : Int64)), (.long (0 : Int64)), (.long (0 : Int64)), (.long (0 : Int64)), (.long (0 : Int64)), (.long (0 : Int64))] := A19
    rw [n_ltJ] at c69_16
    have hh : w0.toInt ≤ w1.toInt ∧ w0.toInt ≤ ky.toInt := ⟨by omega, by omega⟩
    exact o_return H19 rfl d6_109 (by decide) (by decide) ⟨rfl, k20, f22, f23, f24, _, _, _, f25, hh, fun t => by (have e9 : own_key p1 p2 = ky := e_ky.symm); (simp only [e9]); (try omega)⟩
  · intro c69_16
    refine o_aloadN H15 rfl rfl d6_72 rfl ?_
    refine o_getF H15 (host := "") (Or.inl (w23 hw)) f10 d6_73 rfl ?_
    intro T26 H27
    refine o_iload H27 rfl d6_76 rfl ?_
    refine o_aloadN H27 rfl rfl d6_78 rfl ?_
    refine o_getF H27 (host := "") (Or.inl (w23 hw)) f10 d6_79 rfl ?_
    intro T28 H29
    refine o_iload H29 rfl d6_82 rfl ?_
    refine o_iconst H29 (1 : Int32) rfl d6_84 rfl ?_
    refine o_isub H29 d6_85 rfl ?_
    refine o_fold (1 : Int32) (by decide) ?_
    refine o_iconst H29 (2 : Int32) rfl d6_86 rfl ?_
    refine o_idiv H29 (by decide) d6_87 rfl ?_
    refine o_fold (0 : Int32) (by decide) ?_
    refine o_laload H29 0 (.long w0) f13 (by decide) rfl d6_88 rfl ?_
    refine o_lastore H29 2 f13 (by decide) (Nat.le_of_ble_eq_true rfl) g_b d6_89 rfl ?_
    intro T30 h30 H30 W30 A30
    have k31 := k8.wr W30 (Or.inl (by simp))
    have f32 := f9.wr W30
    have f33 := f10.other W30 (Or.inl ne)
    have f34 := f11.other W30 (Or.inl ne)
    have f35 := f12.other W30 (Or.inl ne)
    have f36 : oA .long Z h30 b [(.long w0), (.long w1), (.long w0), (.long (0 : Int64)), (.long (0 : Int64)), (.long (0 : Int64)), (.long (0 : Int64)), (.long (0 : Int64)), (.long (0 : Int64)), (.long (0 : Int64)), (.long (0 : Int64)), (.long (0 : Int64)), (.long (0 : Int64)), (.long (0 : Int64)), (.long (0 : Int64)), (.long (0 : Int64))] := A30
    refine o_iload H30 rfl d6_90 rfl ?_
    refine o_iconst H30 (1 : Int32) rfl d6_92 rfl ?_
    refine o_isub H30 d6_93 rfl ?_
    refine o_fold (1 : Int32) (by decide) ?_
    refine o_iconst H30 (2 : Int32) rfl d6_94 rfl ?_
    refine o_idiv H30 (by decide) d6_95 rfl ?_
    refine o_fold (0 : Int32) (by decide) ?_
    refine o_istore H30 (L' := #[.val (.ref a1), .val (.int p1), .val (.int p2), .val (.long ky), .second, .val (.int (0 : Int32))]) rfl d6_96 rfl ?_
    refine o_goto H30 d6_98 (pt := 51) (by decide) (by decide) ?_
    refine o_iload H30 rfl d6_51 rfl ?_
    refine o_if_t H30 d6_53 (by decide) (pt := 101) (by decide) (by decide) ?_
    refine o_aloadN H30 rfl rfl d6_101 rfl ?_
    refine o_getF H30 (host := "") (Or.inl (w23 hw)) f33 d6_102 rfl ?_
    intro T37 H38
    refine o_iload H38 rfl d6_105 rfl ?_
    refine o_lloadN H38 rfl d6_107 rfl ?_
    refine o_lastore H38 0 f36 (by decide) (Nat.le_of_ble_eq_true rfl) g_b d6_108 rfl ?_
    intro T39 h39 H39 W39 A39
    have k40 := k31.wr W39 (Or.inl (by simp))
    have f41 := f32.wr W39
    have f42 := f33.other W39 (Or.inl ne)
    have f43 := f34.other W39 (Or.inl ne)
    have f44 := f35.other W39 (Or.inl ne)
    have f45 : oA .long Z h39 b [(.long ky), (.long w1), (.long w0), (.long (0 : Int64)), (.long (0 : Int64)), (.long (0 : Int64)), (.long (0 : Int64)), (.long (0 : Int64)), (.long (0 : Int64)), (.long (0 : Int64)), (.long (0 : Int64)), (.long (0 : Int64)), (.long (0 : Int64)), (.long (0 : Int64)), (.long (0 : Int64)), (.long (0 : Int64))] := A39
    rw [n_ltJ] at c69_16
    have hh : ky.toInt ≤ w1.toInt ∧ ky.toInt ≤ w0.toInt := ⟨by omega, by omega⟩
    exact o_return H39 rfl d6_109 (by decide) (by decide) ⟨rfl, k40, f42, f43, f44, _, _, _, f45, hh, fun t => by (have e9 : own_key p1 p2 = ky := e_ky.symm); (simp only [e9]); (try omega)⟩
set_option maxRecDepth 65536 in
set_option maxHeartbeats 40000000 in
theorem rm6_3 (l : Launch) (Z : State) (a0 : Array Value) (hw : ∀ d ∈ tables_1, d.before a0 Z = true) (a1 : Addr) (p1 : Int32) (p2 : Int32) (b : Addr) (q0 : Int32) (w0 : Int64) (w1 : Int64) (w2 : Int64) (h0 : Heap) (n0 : Nat) (Z0 : n0 ≤ h0.size) (E_a1 : Exa Z h0 a1 "com/example/bare_triage/baretriage/rank/Turns") (g_a1 : n0 ≤ a1) (F_waiting_a1 : Fld Z h0 a1 "com/example/bare_triage/baretriage/rank/Turns" "waiting" "[J" (.ref b)) (F_count_a1 : Fld Z h0 a1 "com/example/bare_triage/baretriage/rank/Turns" "count" "I" (.int (3 : Int32))) (F_round_a1 : Fld Z h0 a1 "com/example/bare_triage/baretriage/rank/Turns" "round" "I" (.int q0)) (g_b : n0 ≤ b) (ne : a1 ≠ b) (A_b : oA .long Z h0 b [(.long w0), (.long w1), (.long w2), (.long (0 : Int64)), (.long (0 : Int64)), (.long (0 : Int64)), (.long (0 : Int64)), (.long (0 : Int64)), (.long (0 : Int64)), (.long (0 : Int64)), (.long (0 : Int64)), (.long (0 : Int64)), (.long (0 : Int64)), (.long (0 : Int64)), (.long (0 : Int64)), (.long (0 : Int64))]) (hp : w0.toInt ≤ w1.toInt ∧ w0.toInt ≤ w2.toInt) :
    oC l Z n0 (⟨"com/example/bare_triage/baretriage/rank/Turns", "add", "(II)V"⟩ : MethodName) prog_21_method_2_code 6 none ({ frames := 0, cells := 0, slots := 0, locals := 0 } : Room) 0 0 #[(.ref a1), (.int p1), (.int p2)] h0 (fun v h => v = none ∧ Keep h0 h [a1, b] ∧ Fld Z h a1 "com/example/bare_triage/baretriage/rank/Turns" "waiting" "[J" (.ref b) ∧ Fld Z h a1 "com/example/bare_triage/baretriage/rank/Turns" "count" "I" (.int (4 : Int32)) ∧ Fld Z h a1 "com/example/bare_triage/baretriage/rank/Turns" "round" "I" (.int q0) ∧ ∃ u0 u1 u2 u3 : Int64, oA .long Z h b [(.long u0), (.long u1), (.long u2), (.long u3), (.long (0 : Int64)), (.long (0 : Int64)), (.long (0 : Int64)), (.long (0 : Int64)), (.long (0 : Int64)), (.long (0 : Int64)), (.long (0 : Int64)), (.long (0 : Int64)), (.long (0 : Int64)), (.long (0 : Int64)), (.long (0 : Int64)), (.long (0 : Int64))] ∧ (u0.toInt ≤ u1.toInt ∧ u0.toInt ≤ u2.toInt ∧ u1.toInt ≤ u3.toInt) ∧ ∀ t, own_c t u0 + own_c t u1 + own_c t u2 + own_c t u3 = own_c t (own_key p1 p2) + own_c t w0 + own_c t w1 + own_c t w2) := by
  refine oC.of (L := #[.val (.ref a1), .val (.int p1), .val (.int p2), .unset, .unset, .unset]) pn6 Z0 (fun m => by first | (simp [entryFrame, mkF, argsToLocals, Value.category]; done) | rfl) ?_
  intro p e s m below meth c T H
  refine o_aloadN H rfl rfl d6_0 rfl ?_
  refine o_getF H (host := "") (Or.inl (w30 hw)) F_count_a1 d6_1 rfl ?_
  intro T1 H2
  refine o_aloadN H2 rfl rfl d6_4 rfl ?_
  refine o_getF H2 (host := "") (Or.inl (w23 hw)) F_waiting_a1 d6_5 rfl ?_
  intro T3 H4
  refine o_arraylength H4 (16 : Int32) A_b rfl d6_8 rfl ?_
  refine o_icmp_t H4 d6_9 (by decide) (pt := 29) (by decide) (by decide) ?_
  refine o_iloadN H4 rfl d6_29 rfl ?_
  refine o_i2l H4 d6_30 rfl ?_
  refine o_bipush H4 (32 : Int32) rfl d6_31 rfl ?_
  refine o_lshl H4 d6_33 rfl ?_
  refine o_iloadN H4 rfl d6_34 rfl ?_
  refine o_i2l H4 d6_35 rfl ?_
  refine o_lor H4 d6_36 rfl ?_
  obtain ⟨ky, e_ky⟩ : ∃ z : Int64, z = (((p1.toInt64) <<< ((32 : Int32).toInt64 &&& 63)) ||| (p2.toInt64)) := ⟨_, rfl⟩
  rw [← e_ky]
  refine o_lstoreN H4 (L' := #[.val (.ref a1), .val (.int p1), .val (.int p2), .val (.long ky), .second, .unset]) rfl d6_37 rfl ?_
  refine o_aloadN H4 rfl rfl d6_38 rfl ?_
  refine o_dup H4 rfl d6_39 rfl ?_
  refine o_getF H4 (host := "") (Or.inl (w30 hw)) F_count_a1 d6_40 rfl ?_
  intro T5 H6
  refine o_dup_x1 H6 rfl rfl d6_43 rfl ?_
  refine o_iconst H6 (1 : Int32) rfl d6_44 rfl ?_
  refine o_iadd H6 d6_45 rfl ?_
  refine o_fold (4 : Int32) (by decide) ?_
  refine o_putF H6 (host := "") (Or.inl (w30 hw)) F_count_a1 E_a1 (Or.inl (w31 hw)) (w14 hw) (ty := .int) (by decide) rfl rfl g_a1 d6_46 rfl ?_
  intro T7 h7 H7 W7
  have k8 := (Keep.refl h0 [a1, b]).wr W7 (Or.inl (by simp))
  have f9 := E_a1.wr W7
  have f10 := F_waiting_a1.other W7 (Or.inr (slot_ne (Or.inl (w24 hw)) (Or.inl (w31 hw)) (by decide) (t := (.array .long)) (t' := .int) (by decide) (by decide)))
  have f11 := F_count_a1.same W7
  have f12 := F_round_a1.other W7 (Or.inr (slot_ne (Or.inl (w50 hw)) (Or.inl (w31 hw)) (by decide) (t := .int) (t' := .int) (by decide) (by decide)))
  have f13 := A_b.other W7 (Ne.symm ne)
  refine o_istore H7 (L' := #[.val (.ref a1), .val (.int p1), .val (.int p2), .val (.long ky), .second, .val (.int (3 : Int32))]) rfl d6_49 rfl ?_
  refine o_iload H7 rfl d6_51 rfl ?_
  refine o_if_f H7 d6_53 (by decide) rfl ?_
  refine o_aloadN H7 rfl rfl d6_56 rfl ?_
  refine o_getF H7 (host := "") (Or.inl (w23 hw)) f10 d6_57 rfl ?_
  intro T14 H15
  refine o_iload H15 rfl d6_60 rfl ?_
  refine o_iconst H15 (1 : Int32) rfl d6_62 rfl ?_
  refine o_isub H15 d6_63 rfl ?_
  refine o_fold (2 : Int32) (by decide) ?_
  refine o_iconst H15 (2 : Int32) rfl d6_64 rfl ?_
  refine o_idiv H15 (by decide) d6_65 rfl ?_
  refine o_fold (1 : Int32) (by decide) ?_
  refine o_laload H15 1 (.long w1) f13 (by decide) rfl d6_66 rfl ?_
  refine o_lloadN H15 rfl d6_67 rfl ?_
  refine o_lcmp H15 d6_68 rfl ?_
  refine o_ifl_le H15 d6_69 (pt := 101) (by decide) (by decide) rfl ?_ ?_
  · intro c69_16
    refine o_aloadN H15 rfl rfl d6_101 rfl ?_
    refine o_getF H15 (host := "") (Or.inl (w23 hw)) f10 d6_102 rfl ?_
    intro T17 H18
    refine o_iload H18 rfl d6_105 rfl ?_
    refine o_lloadN H18 rfl d6_107 rfl ?_
    refine o_lastore H18 3 f13 (by decide) (Nat.le_of_ble_eq_true rfl) g_b d6_108 rfl ?_
    intro T19 h19 H19 W19 A19
    have k20 := k8.wr W19 (Or.inl (by simp))
    have f21 := f9.wr W19
    have f22 := f10.other W19 (Or.inl ne)
    have f23 := f11.other W19 (Or.inl ne)
    have f24 := f12.other W19 (Or.inl ne)
    have f25 : oA .long Z h19 b [(.long w0), (.long w1), (.long w2), (.long ky), (.long (0 : Int64)), (.long (0 : Int64)), (.long (0 : Int64)), (.long (0 : Int64)), (.long (0 : Int64)), (.long (0 : Int64)), (.long (0 : Int64)), (.long (0 : Int64)), (.long (0 : Int64)), (.long (0 : Int64)), (.long (0 : Int64)), (.long (0 : Int64))] := A19
    rw [n_ltJ] at c69_16
    have hh : w0.toInt ≤ w1.toInt ∧ w0.toInt ≤ w2.toInt ∧ w1.toInt ≤ ky.toInt := ⟨by omega, by omega, by omega⟩
    exact o_return H19 rfl d6_109 (by decide) (by decide) ⟨rfl, k20, f22, f23, f24, _, _, _, _, f25, hh, fun t => by (have e9 : own_key p1 p2 = ky := e_ky.symm); (simp only [e9]); (try omega)⟩
  · intro c69_16
    refine o_aloadN H15 rfl rfl d6_72 rfl ?_
    refine o_getF H15 (host := "") (Or.inl (w23 hw)) f10 d6_73 rfl ?_
    intro T26 H27
    refine o_iload H27 rfl d6_76 rfl ?_
    refine o_aloadN H27 rfl rfl d6_78 rfl ?_
    refine o_getF H27 (host := "") (Or.inl (w23 hw)) f10 d6_79 rfl ?_
    intro T28 H29
    refine o_iload H29 rfl d6_82 rfl ?_
    refine o_iconst H29 (1 : Int32) rfl d6_84 rfl ?_
    refine o_isub H29 d6_85 rfl ?_
    refine o_fold (2 : Int32) (by decide) ?_
    refine o_iconst H29 (2 : Int32) rfl d6_86 rfl ?_
    refine o_idiv H29 (by decide) d6_87 rfl ?_
    refine o_fold (1 : Int32) (by decide) ?_
    refine o_laload H29 1 (.long w1) f13 (by decide) rfl d6_88 rfl ?_
    refine o_lastore H29 3 f13 (by decide) (Nat.le_of_ble_eq_true rfl) g_b d6_89 rfl ?_
    intro T30 h30 H30 W30 A30
    have k31 := k8.wr W30 (Or.inl (by simp))
    have f32 := f9.wr W30
    have f33 := f10.other W30 (Or.inl ne)
    have f34 := f11.other W30 (Or.inl ne)
    have f35 := f12.other W30 (Or.inl ne)
    have f36 : oA .long Z h30 b [(.long w0), (.long w1), (.long w2), (.long w1), (.long (0 : Int64)), (.long (0 : Int64)), (.long (0 : Int64)), (.long (0 : Int64)), (.long (0 : Int64)), (.long (0 : Int64)), (.long (0 : Int64)), (.long (0 : Int64)), (.long (0 : Int64)), (.long (0 : Int64)), (.long (0 : Int64)), (.long (0 : Int64))] := A30
    refine o_iload H30 rfl d6_90 rfl ?_
    refine o_iconst H30 (1 : Int32) rfl d6_92 rfl ?_
    refine o_isub H30 d6_93 rfl ?_
    refine o_fold (2 : Int32) (by decide) ?_
    refine o_iconst H30 (2 : Int32) rfl d6_94 rfl ?_
    refine o_idiv H30 (by decide) d6_95 rfl ?_
    refine o_fold (1 : Int32) (by decide) ?_
    refine o_istore H30 (L' := #[.val (.ref a1), .val (.int p1), .val (.int p2), .val (.long ky), .second, .val (.int (1 : Int32))]) rfl d6_96 rfl ?_
    refine o_goto H30 d6_98 (pt := 51) (by decide) (by decide) ?_
    refine o_iload H30 rfl d6_51 rfl ?_
    refine o_if_f H30 d6_53 (by decide) rfl ?_
    refine o_aloadN H30 rfl rfl d6_56 rfl ?_
    refine o_getF H30 (host := "") (Or.inl (w23 hw)) f33 d6_57 rfl ?_
    intro T37 H38
    refine o_iload H38 rfl d6_60 rfl ?_
    refine o_iconst H38 (1 : Int32) rfl d6_62 rfl ?_
    refine o_isub H38 d6_63 rfl ?_
    refine o_fold (0 : Int32) (by decide) ?_
    refine o_iconst H38 (2 : Int32) rfl d6_64 rfl ?_
    refine o_idiv H38 (by decide) d6_65 rfl ?_
    refine o_fold (0 : Int32) (by decide) ?_
    refine o_laload H38 0 (.long w0) f36 (by decide) rfl d6_66 rfl ?_
    refine o_lloadN H38 rfl d6_67 rfl ?_
    refine o_lcmp H38 d6_68 rfl ?_
    refine o_ifl_le H38 d6_69 (pt := 101) (by decide) (by decide) rfl ?_ ?_
    · intro c69_39
      refine o_aloadN H38 rfl rfl d6_101 rfl ?_
      refine o_getF H38 (host := "") (Or.inl (w23 hw)) f33 d6_102 rfl ?_
      intro T40 H41
      refine o_iload H41 rfl d6_105 rfl ?_
      refine o_lloadN H41 rfl d6_107 rfl ?_
      refine o_lastore H41 1 f36 (by decide) (Nat.le_of_ble_eq_true rfl) g_b d6_108 rfl ?_
      intro T42 h42 H42 W42 A42
      have k43 := k31.wr W42 (Or.inl (by simp))
      have f44 := f32.wr W42
      have f45 := f33.other W42 (Or.inl ne)
      have f46 := f34.other W42 (Or.inl ne)
      have f47 := f35.other W42 (Or.inl ne)
      have f48 : oA .long Z h42 b [(.long w0), (.long ky), (.long w2), (.long w1), (.long (0 : Int64)), (.long (0 : Int64)), (.long (0 : Int64)), (.long (0 : Int64)), (.long (0 : Int64)), (.long (0 : Int64)), (.long (0 : Int64)), (.long (0 : Int64)), (.long (0 : Int64)), (.long (0 : Int64)), (.long (0 : Int64)), (.long (0 : Int64))] := A42
      rw [n_ltJ] at c69_16
      rw [n_ltJ] at c69_39
      have hh : w0.toInt ≤ ky.toInt ∧ w0.toInt ≤ w2.toInt ∧ ky.toInt ≤ w1.toInt := ⟨by omega, by omega, by omega⟩
      exact o_return H42 rfl d6_109 (by decide) (by decide) ⟨rfl, k43, f45, f46, f47, _, _, _, _, f48, hh, fun t => by (have e9 : own_key p1 p2 = ky := e_ky.symm); (simp only [e9]); (try omega)⟩
    · intro c69_39
      refine o_aloadN H38 rfl rfl d6_72 rfl ?_
      refine o_getF H38 (host := "") (Or.inl (w23 hw)) f33 d6_73 rfl ?_
      intro T49 H50
      refine o_iload H50 rfl d6_76 rfl ?_
      refine o_aloadN H50 rfl rfl d6_78 rfl ?_
      refine o_getF H50 (host := "") (Or.inl (w23 hw)) f33 d6_79 rfl ?_
      intro T51 H52
      refine o_iload H52 rfl d6_82 rfl ?_
      refine o_iconst H52 (1 : Int32) rfl d6_84 rfl ?_
      refine o_isub H52 d6_85 rfl ?_
      refine o_fold (0 : Int32) (by decide) ?_
      refine o_iconst H52 (2 : Int32) rfl d6_86 rfl ?_
      refine o_idiv H52 (by decide) d6_87 rfl ?_
      refine o_fold (0 : Int32) (by decide) ?_
      refine o_laload H52 0 (.long w0) f36 (by decide) rfl d6_88 rfl ?_
      refine o_lastore H52 1 f36 (by decide) (Nat.le_of_ble_eq_true rfl) g_b d6_89 rfl ?_
      intro T53 h53 H53 W53 A53
      have k54 := k31.wr W53 (Or.inl (by simp))
      have f55 := f32.wr W53
      have f56 := f33.other W53 (Or.inl ne)
      have f57 := f34.other W53 (Or.inl ne)
      have f58 := f35.other W53 (Or.inl ne)
      have f59 : oA .long Z h53 b [(.long w0), (.long w0), (.long w2), (.long w1), (.long (0 : Int64)), (.long (0 : Int64)), (.long (0 : Int64)), (.long (0 : Int64)), (.long (0 : Int64)), (.long (0 : Int64)), (.long (0 : Int64)), (.long (0 : Int64)), (.long (0 : Int64)), (.long (0 : Int64)), (.long (0 : Int64)), (.long (0 : Int64))] := A53
      refine o_iload H53 rfl d6_90 rfl ?_
      refine o_iconst H53 (1 : Int32) rfl d6_92 rfl ?_
      refine o_isub H53 d6_93 rfl ?_
      refine o_fold (0 : Int32) (by decide) ?_
      refine o_iconst H53 (2 : Int32) rfl d6_94 rfl ?_
      refine o_idiv H53 (by decide) d6_95 rfl ?_
      refine o_fold (0 : Int32) (by decide) ?_
      refine o_istore H53 (L' := #[.val (.ref a1), .val (.int p1), .val (.int p2), .val (.long ky), .second, .val (.int (0 : Int32))]) rfl d6_96 rfl ?_
      refine o_goto H53 d6_98 (pt := 51) (by decide) (by decide) ?_
      refine o_iload H53 rfl d6_51 rfl ?_
      refine o_if_t H53 d6_53 (by decide) (pt := 101) (by decide) (by decide) ?_
      refine o_aloadN H53 rfl rfl d6_101 rfl ?_
      refine o_getF H53 (host := "") (Or.inl (w23 hw)) f56 d6_102 rfl ?_
      intro T60 H61
      refine o_iload H61 rfl d6_105 rfl ?_
      refine o_lloadN H61 rfl d6_107 rfl ?_
      refine o_lastore H61 0 f59 (by decide) (Nat.le_of_ble_eq_true rfl) g_b d6_108 rfl ?_
      intro T62 h62 H62 W62 A62
      have k63 := k54.wr W62 (Or.inl (by simp))
      have f64 := f55.wr W62
      have f65 := f56.other W62 (Or.inl ne)
      have f66 := f57.other W62 (Or.inl ne)
      have f67 := f58.other W62 (Or.inl ne)
      have f68 : oA .long Z h62 b [(.long ky), (.long w0), (.long w2), (.long w1), (.long (0 : Int64)), (.long (0 : Int64)), (.long (0 : Int64)), (.long (0 : Int64)), (.long (0 : Int64)), (.long (0 : Int64)), (.long (0 : Int64)), (.long (0 : Int64)), (.long (0 : Int64)), (.long (0 : Int64)), (.long (0 : Int64)), (.long (0 : Int64))] := A62
      rw [n_ltJ] at c69_16
      rw [n_ltJ] at c69_39
      have hh : ky.toInt ≤ w0.toInt ∧ ky.toInt ≤ w2.toInt ∧ w0.toInt ≤ w1.toInt := ⟨by omega, by omega, by omega⟩
      exact o_return H62 rfl d6_109 (by decide) (by decide) ⟨rfl, k63, f65, f66, f67, _, _, _, _, f68, hh, fun t => by (have e9 : own_key p1 p2 = ky := e_ky.symm); (simp only [e9]); (try omega)⟩
set_option maxRecDepth 65536 in
set_option maxHeartbeats 40000000 in
theorem rm6_4 (l : Launch) (Z : State) (a0 : Array Value) (hw : ∀ d ∈ tables_1, d.before a0 Z = true) (a1 : Addr) (p1 : Int32) (p2 : Int32) (b : Addr) (q0 : Int32) (w0 : Int64) (w1 : Int64) (w2 : Int64) (w3 : Int64) (h0 : Heap) (n0 : Nat) (Z0 : n0 ≤ h0.size) (E_a1 : Exa Z h0 a1 "com/example/bare_triage/baretriage/rank/Turns") (g_a1 : n0 ≤ a1) (F_waiting_a1 : Fld Z h0 a1 "com/example/bare_triage/baretriage/rank/Turns" "waiting" "[J" (.ref b)) (F_count_a1 : Fld Z h0 a1 "com/example/bare_triage/baretriage/rank/Turns" "count" "I" (.int (4 : Int32))) (F_round_a1 : Fld Z h0 a1 "com/example/bare_triage/baretriage/rank/Turns" "round" "I" (.int q0)) (g_b : n0 ≤ b) (ne : a1 ≠ b) (A_b : oA .long Z h0 b [(.long w0), (.long w1), (.long w2), (.long w3), (.long (0 : Int64)), (.long (0 : Int64)), (.long (0 : Int64)), (.long (0 : Int64)), (.long (0 : Int64)), (.long (0 : Int64)), (.long (0 : Int64)), (.long (0 : Int64)), (.long (0 : Int64)), (.long (0 : Int64)), (.long (0 : Int64)), (.long (0 : Int64))]) (hp : w0.toInt ≤ w1.toInt ∧ w0.toInt ≤ w2.toInt ∧ w1.toInt ≤ w3.toInt) :
    oC l Z n0 (⟨"com/example/bare_triage/baretriage/rank/Turns", "add", "(II)V"⟩ : MethodName) prog_21_method_2_code 6 none ({ frames := 0, cells := 0, slots := 0, locals := 0 } : Room) 0 0 #[(.ref a1), (.int p1), (.int p2)] h0 (fun v h => v = none ∧ Keep h0 h [a1, b] ∧ Fld Z h a1 "com/example/bare_triage/baretriage/rank/Turns" "waiting" "[J" (.ref b) ∧ Fld Z h a1 "com/example/bare_triage/baretriage/rank/Turns" "count" "I" (.int (5 : Int32)) ∧ Fld Z h a1 "com/example/bare_triage/baretriage/rank/Turns" "round" "I" (.int q0) ∧ ∃ u0 u1 u2 u3 u4 : Int64, oA .long Z h b [(.long u0), (.long u1), (.long u2), (.long u3), (.long u4), (.long (0 : Int64)), (.long (0 : Int64)), (.long (0 : Int64)), (.long (0 : Int64)), (.long (0 : Int64)), (.long (0 : Int64)), (.long (0 : Int64)), (.long (0 : Int64)), (.long (0 : Int64)), (.long (0 : Int64)), (.long (0 : Int64))] ∧ (u0.toInt ≤ u1.toInt ∧ u0.toInt ≤ u2.toInt ∧ u1.toInt ≤ u3.toInt ∧ u1.toInt ≤ u4.toInt) ∧ ∀ t, own_c t u0 + own_c t u1 + own_c t u2 + own_c t u3 + own_c t u4 = own_c t (own_key p1 p2) + own_c t w0 + own_c t w1 + own_c t w2 + own_c t w3) := by
  refine oC.of (L := #[.val (.ref a1), .val (.int p1), .val (.int p2), .unset, .unset, .unset]) pn6 Z0 (fun m => by first | (simp [entryFrame, mkF, argsToLocals, Value.category]; done) | rfl) ?_
  intro p e s m below meth c T H
  refine o_aloadN H rfl rfl d6_0 rfl ?_
  refine o_getF H (host := "") (Or.inl (w30 hw)) F_count_a1 d6_1 rfl ?_
  intro T1 H2
  refine o_aloadN H2 rfl rfl d6_4 rfl ?_
  refine o_getF H2 (host := "") (Or.inl (w23 hw)) F_waiting_a1 d6_5 rfl ?_
  intro T3 H4
  refine o_arraylength H4 (16 : Int32) A_b rfl d6_8 rfl ?_
  refine o_icmp_t H4 d6_9 (by decide) (pt := 29) (by decide) (by decide) ?_
  refine o_iloadN H4 rfl d6_29 rfl ?_
  refine o_i2l H4 d6_30 rfl ?_
  refine o_bipush H4 (32 : Int32) rfl d6_31 rfl ?_
  refine o_lshl H4 d6_33 rfl ?_
  refine o_iloadN H4 rfl d6_34 rfl ?_
  refine o_i2l H4 d6_35 rfl ?_
  refine o_lor H4 d6_36 rfl ?_
  obtain ⟨ky, e_ky⟩ : ∃ z : Int64, z = (((p1.toInt64) <<< ((32 : Int32).toInt64 &&& 63)) ||| (p2.toInt64)) := ⟨_, rfl⟩
  rw [← e_ky]
  refine o_lstoreN H4 (L' := #[.val (.ref a1), .val (.int p1), .val (.int p2), .val (.long ky), .second, .unset]) rfl d6_37 rfl ?_
  refine o_aloadN H4 rfl rfl d6_38 rfl ?_
  refine o_dup H4 rfl d6_39 rfl ?_
  refine o_getF H4 (host := "") (Or.inl (w30 hw)) F_count_a1 d6_40 rfl ?_
  intro T5 H6
  refine o_dup_x1 H6 rfl rfl d6_43 rfl ?_
  refine o_iconst H6 (1 : Int32) rfl d6_44 rfl ?_
  refine o_iadd H6 d6_45 rfl ?_
  refine o_fold (5 : Int32) (by decide) ?_
  refine o_putF H6 (host := "") (Or.inl (w30 hw)) F_count_a1 E_a1 (Or.inl (w31 hw)) (w14 hw) (ty := .int) (by decide) rfl rfl g_a1 d6_46 rfl ?_
  intro T7 h7 H7 W7
  have k8 := (Keep.refl h0 [a1, b]).wr W7 (Or.inl (by simp))
  have f9 := E_a1.wr W7
  have f10 := F_waiting_a1.other W7 (Or.inr (slot_ne (Or.inl (w24 hw)) (Or.inl (w31 hw)) (by decide) (t := (.array .long)) (t' := .int) (by decide) (by decide)))
  have f11 := F_count_a1.same W7
  have f12 := F_round_a1.other W7 (Or.inr (slot_ne (Or.inl (w50 hw)) (Or.inl (w31 hw)) (by decide) (t := .int) (t' := .int) (by decide) (by decide)))
  have f13 := A_b.other W7 (Ne.symm ne)
  refine o_istore H7 (L' := #[.val (.ref a1), .val (.int p1), .val (.int p2), .val (.long ky), .second, .val (.int (4 : Int32))]) rfl d6_49 rfl ?_
  refine o_iload H7 rfl d6_51 rfl ?_
  refine o_if_f H7 d6_53 (by decide) rfl ?_
  refine o_aloadN H7 rfl rfl d6_56 rfl ?_
  refine o_getF H7 (host := "") (Or.inl (w23 hw)) f10 d6_57 rfl ?_
  intro T14 H15
  refine o_iload H15 rfl d6_60 rfl ?_
  refine o_iconst H15 (1 : Int32) rfl d6_62 rfl ?_
  refine o_isub H15 d6_63 rfl ?_
  refine o_fold (3 : Int32) (by decide) ?_
  refine o_iconst H15 (2 : Int32) rfl d6_64 rfl ?_
  refine o_idiv H15 (by decide) d6_65 rfl ?_
  refine o_fold (1 : Int32) (by decide) ?_
  refine o_laload H15 1 (.long w1) f13 (by decide) rfl d6_66 rfl ?_
  refine o_lloadN H15 rfl d6_67 rfl ?_
  refine o_lcmp H15 d6_68 rfl ?_
  refine o_ifl_le H15 d6_69 (pt := 101) (by decide) (by decide) rfl ?_ ?_
  · intro c69_16
    refine o_aloadN H15 rfl rfl d6_101 rfl ?_
    refine o_getF H15 (host := "") (Or.inl (w23 hw)) f10 d6_102 rfl ?_
    intro T17 H18
    refine o_iload H18 rfl d6_105 rfl ?_
    refine o_lloadN H18 rfl d6_107 rfl ?_
    refine o_lastore H18 4 f13 (by decide) (Nat.le_of_ble_eq_true rfl) g_b d6_108 rfl ?_
    intro T19 h19 H19 W19 A19
    have k20 := k8.wr W19 (Or.inl (by simp))
    have f21 := f9.wr W19
    have f22 := f10.other W19 (Or.inl ne)
    have f23 := f11.other W19 (Or.inl ne)
    have f24 := f12.other W19 (Or.inl ne)
    have f25 : oA .long Z h19 b [(.long w0), (.long w1), (.long w2), (.long w3), (.long ky), (.long (0 : Int64)), (.long (0 : Int64)), (.long (0 : Int64)), (.long (0 : Int64)), (.long (0 : Int64)), (.long (0 : Int64)), (.long (0 : Int64)), (.long (0 : Int64)), (.long (0 : Int64)), (.long (0 : Int64)), (.long (0 : Int64))] := A19
    rw [n_ltJ] at c69_16
    have hh : w0.toInt ≤ w1.toInt ∧ w0.toInt ≤ w2.toInt ∧ w1.toInt ≤ w3.toInt ∧ w1.toInt ≤ ky.toInt := ⟨by omega, by omega, by omega, by omega⟩
    exact o_return H19 rfl d6_109 (by decide) (by decide) ⟨rfl, k20, f22, f23, f24, _, _, _, _, _, f25, hh, fun t => by (have e9 : own_key p1 p2 = ky := e_ky.symm); (simp only [e9]); (try omega)⟩
  · intro c69_16
    refine o_aloadN H15 rfl rfl d6_72 rfl ?_
    refine o_getF H15 (host := "") (Or.inl (w23 hw)) f10 d6_73 rfl ?_
    intro T26 H27
    refine o_iload H27 rfl d6_76 rfl ?_
    refine o_aloadN H27 rfl rfl d6_78 rfl ?_
    refine o_getF H27 (host := "") (Or.inl (w23 hw)) f10 d6_79 rfl ?_
    intro T28 H29
    refine o_iload H29 rfl d6_82 rfl ?_
    refine o_iconst H29 (1 : Int32) rfl d6_84 rfl ?_
    refine o_isub H29 d6_85 rfl ?_
    refine o_fold (3 : Int32) (by decide) ?_
    refine o_iconst H29 (2 : Int32) rfl d6_86 rfl ?_
    refine o_idiv H29 (by decide) d6_87 rfl ?_
    refine o_fold (1 : Int32) (by decide) ?_
    refine o_laload H29 1 (.long w1) f13 (by decide) rfl d6_88 rfl ?_
    refine o_lastore H29 4 f13 (by decide) (Nat.le_of_ble_eq_true rfl) g_b d6_89 rfl ?_
    intro T30 h30 H30 W30 A30
    have k31 := k8.wr W30 (Or.inl (by simp))
    have f32 := f9.wr W30
    have f33 := f10.other W30 (Or.inl ne)
    have f34 := f11.other W30 (Or.inl ne)
    have f35 := f12.other W30 (Or.inl ne)
    have f36 : oA .long Z h30 b [(.long w0), (.long w1), (.long w2), (.long w3), (.long w1), (.long (0 : Int64)), (.long (0 : Int64)), (.long (0 : Int64)), (.long (0 : Int64)), (.long (0 : Int64)), (.long (0 : Int64)), (.long (0 : Int64)), (.long (0 : Int64)), (.long (0 : Int64)), (.long (0 : Int64)), (.long (0 : Int64))] := A30
    refine o_iload H30 rfl d6_90 rfl ?_
    refine o_iconst H30 (1 : Int32) rfl d6_92 rfl ?_
    refine o_isub H30 d6_93 rfl ?_
    refine o_fold (3 : Int32) (by decide) ?_
    refine o_iconst H30 (2 : Int32) rfl d6_94 rfl ?_
    refine o_idiv H30 (by decide) d6_95 rfl ?_
    refine o_fold (1 : Int32) (by decide) ?_
    refine o_istore H30 (L' := #[.val (.ref a1), .val (.int p1), .val (.int p2), .val (.long ky), .second, .val (.int (1 : Int32))]) rfl d6_96 rfl ?_
    refine o_goto H30 d6_98 (pt := 51) (by decide) (by decide) ?_
    refine o_iload H30 rfl d6_51 rfl ?_
    refine o_if_f H30 d6_53 (by decide) rfl ?_
    refine o_aloadN H30 rfl rfl d6_56 rfl ?_
    refine o_getF H30 (host := "") (Or.inl (w23 hw)) f33 d6_57 rfl ?_
    intro T37 H38
    refine o_iload H38 rfl d6_60 rfl ?_
    refine o_iconst H38 (1 : Int32) rfl d6_62 rfl ?_
    refine o_isub H38 d6_63 rfl ?_
    refine o_fold (0 : Int32) (by decide) ?_
    refine o_iconst H38 (2 : Int32) rfl d6_64 rfl ?_
    refine o_idiv H38 (by decide) d6_65 rfl ?_
    refine o_fold (0 : Int32) (by decide) ?_
    refine o_laload H38 0 (.long w0) f36 (by decide) rfl d6_66 rfl ?_
    refine o_lloadN H38 rfl d6_67 rfl ?_
    refine o_lcmp H38 d6_68 rfl ?_
    refine o_ifl_le H38 d6_69 (pt := 101) (by decide) (by decide) rfl ?_ ?_
    · intro c69_39
      refine o_aloadN H38 rfl rfl d6_101 rfl ?_
      refine o_getF H38 (host := "") (Or.inl (w23 hw)) f33 d6_102 rfl ?_
      intro T40 H41
      refine o_iload H41 rfl d6_105 rfl ?_
      refine o_lloadN H41 rfl d6_107 rfl ?_
      refine o_lastore H41 1 f36 (by decide) (Nat.le_of_ble_eq_true rfl) g_b d6_108 rfl ?_
      intro T42 h42 H42 W42 A42
      have k43 := k31.wr W42 (Or.inl (by simp))
      have f44 := f32.wr W42
      have f45 := f33.other W42 (Or.inl ne)
      have f46 := f34.other W42 (Or.inl ne)
      have f47 := f35.other W42 (Or.inl ne)
      have f48 : oA .long Z h42 b [(.long w0), (.long ky), (.long w2), (.long w3), (.long w1), (.long (0 : Int64)), (.long (0 : Int64)), (.long (0 : Int64)), (.long (0 : Int64)), (.long (0 : Int64)), (.long (0 : Int64)), (.long (0 : Int64)), (.long (0 : Int64)), (.long (0 : Int64)), (.long (0 : Int64)), (.long (0 : Int64))] := A42
      rw [n_ltJ] at c69_16
      rw [n_ltJ] at c69_39
      have hh : w0.toInt ≤ ky.toInt ∧ w0.toInt ≤ w2.toInt ∧ ky.toInt ≤ w3.toInt ∧ ky.toInt ≤ w1.toInt := ⟨by omega, by omega, by omega, by omega⟩
      exact o_return H42 rfl d6_109 (by decide) (by decide) ⟨rfl, k43, f45, f46, f47, _, _, _, _, _, f48, hh, fun t => by (have e9 : own_key p1 p2 = ky := e_ky.symm); (simp only [e9]); (try omega)⟩
    · intro c69_39
      refine o_aloadN H38 rfl rfl d6_72 rfl ?_
      refine o_getF H38 (host := "") (Or.inl (w23 hw)) f33 d6_73 rfl ?_
      intro T49 H50
      refine o_iload H50 rfl d6_76 rfl ?_
      refine o_aloadN H50 rfl rfl d6_78 rfl ?_
      refine o_getF H50 (host := "") (Or.inl (w23 hw)) f33 d6_79 rfl ?_
      intro T51 H52
      refine o_iload H52 rfl d6_82 rfl ?_
      refine o_iconst H52 (1 : Int32) rfl d6_84 rfl ?_
      refine o_isub H52 d6_85 rfl ?_
      refine o_fold (0 : Int32) (by decide) ?_
      refine o_iconst H52 (2 : Int32) rfl d6_86 rfl ?_
      refine o_idiv H52 (by decide) d6_87 rfl ?_
      refine o_fold (0 : Int32) (by decide) ?_
      refine o_laload H52 0 (.long w0) f36 (by decide) rfl d6_88 rfl ?_
      refine o_lastore H52 1 f36 (by decide) (Nat.le_of_ble_eq_true rfl) g_b d6_89 rfl ?_
      intro T53 h53 H53 W53 A53
      have k54 := k31.wr W53 (Or.inl (by simp))
      have f55 := f32.wr W53
      have f56 := f33.other W53 (Or.inl ne)
      have f57 := f34.other W53 (Or.inl ne)
      have f58 := f35.other W53 (Or.inl ne)
      have f59 : oA .long Z h53 b [(.long w0), (.long w0), (.long w2), (.long w3), (.long w1), (.long (0 : Int64)), (.long (0 : Int64)), (.long (0 : Int64)), (.long (0 : Int64)), (.long (0 : Int64)), (.long (0 : Int64)), (.long (0 : Int64)), (.long (0 : Int64)), (.long (0 : Int64)), (.long (0 : Int64)), (.long (0 : Int64))] := A53
      refine o_iload H53 rfl d6_90 rfl ?_
      refine o_iconst H53 (1 : Int32) rfl d6_92 rfl ?_
      refine o_isub H53 d6_93 rfl ?_
      refine o_fold (0 : Int32) (by decide) ?_
      refine o_iconst H53 (2 : Int32) rfl d6_94 rfl ?_
      refine o_idiv H53 (by decide) d6_95 rfl ?_
      refine o_fold (0 : Int32) (by decide) ?_
      refine o_istore H53 (L' := #[.val (.ref a1), .val (.int p1), .val (.int p2), .val (.long ky), .second, .val (.int (0 : Int32))]) rfl d6_96 rfl ?_
      refine o_goto H53 d6_98 (pt := 51) (by decide) (by decide) ?_
      refine o_iload H53 rfl d6_51 rfl ?_
      refine o_if_t H53 d6_53 (by decide) (pt := 101) (by decide) (by decide) ?_
      refine o_aloadN H53 rfl rfl d6_101 rfl ?_
      refine o_getF H53 (host := "") (Or.inl (w23 hw)) f56 d6_102 rfl ?_
      intro T60 H61
      refine o_iload H61 rfl d6_105 rfl ?_
      refine o_lloadN H61 rfl d6_107 rfl ?_
      refine o_lastore H61 0 f59 (by decide) (Nat.le_of_ble_eq_true rfl) g_b d6_108 rfl ?_
      intro T62 h62 H62 W62 A62
      have k63 := k54.wr W62 (Or.inl (by simp))
      have f64 := f55.wr W62
      have f65 := f56.other W62 (Or.inl ne)
      have f66 := f57.other W62 (Or.inl ne)
      have f67 := f58.other W62 (Or.inl ne)
      have f68 : oA .long Z h62 b [(.long ky), (.long w0), (.long w2), (.long w3), (.long w1), (.long (0 : Int64)), (.long (0 : Int64)), (.long (0 : Int64)), (.long (0 : Int64)), (.long (0 : Int64)), (.long (0 : Int64)), (.long (0 : Int64)), (.long (0 : Int64)), (.long (0 : Int64)), (.long (0 : Int64)), (.long (0 : Int64))] := A62
      rw [n_ltJ] at c69_16
      rw [n_ltJ] at c69_39
      have hh : ky.toInt ≤ w0.toInt ∧ ky.toInt ≤ w2.toInt ∧ w0.toInt ≤ w3.toInt ∧ w0.toInt ≤ w1.toInt := ⟨by omega, by omega, by omega, by omega⟩
      exact o_return H62 rfl d6_109 (by decide) (by decide) ⟨rfl, k63, f65, f66, f67, _, _, _, _, _, f68, hh, fun t => by (have e9 : own_key p1 p2 = ky := e_ky.symm); (simp only [e9]); (try omega)⟩
set_option maxRecDepth 65536 in
set_option maxHeartbeats 40000000 in
theorem rm6_5 (l : Launch) (Z : State) (a0 : Array Value) (hw : ∀ d ∈ tables_1, d.before a0 Z = true) (a1 : Addr) (p1 : Int32) (p2 : Int32) (b : Addr) (q0 : Int32) (w0 : Int64) (w1 : Int64) (w2 : Int64) (w3 : Int64) (w4 : Int64) (h0 : Heap) (n0 : Nat) (Z0 : n0 ≤ h0.size) (E_a1 : Exa Z h0 a1 "com/example/bare_triage/baretriage/rank/Turns") (g_a1 : n0 ≤ a1) (F_waiting_a1 : Fld Z h0 a1 "com/example/bare_triage/baretriage/rank/Turns" "waiting" "[J" (.ref b)) (F_count_a1 : Fld Z h0 a1 "com/example/bare_triage/baretriage/rank/Turns" "count" "I" (.int (5 : Int32))) (F_round_a1 : Fld Z h0 a1 "com/example/bare_triage/baretriage/rank/Turns" "round" "I" (.int q0)) (g_b : n0 ≤ b) (ne : a1 ≠ b) (A_b : oA .long Z h0 b [(.long w0), (.long w1), (.long w2), (.long w3), (.long w4), (.long (0 : Int64)), (.long (0 : Int64)), (.long (0 : Int64)), (.long (0 : Int64)), (.long (0 : Int64)), (.long (0 : Int64)), (.long (0 : Int64)), (.long (0 : Int64)), (.long (0 : Int64)), (.long (0 : Int64)), (.long (0 : Int64))]) (hp : w0.toInt ≤ w1.toInt ∧ w0.toInt ≤ w2.toInt ∧ w1.toInt ≤ w3.toInt ∧ w1.toInt ≤ w4.toInt) :
    oC l Z n0 (⟨"com/example/bare_triage/baretriage/rank/Turns", "add", "(II)V"⟩ : MethodName) prog_21_method_2_code 6 none ({ frames := 0, cells := 0, slots := 0, locals := 0 } : Room) 0 0 #[(.ref a1), (.int p1), (.int p2)] h0 (fun v h => v = none ∧ Keep h0 h [a1, b] ∧ Fld Z h a1 "com/example/bare_triage/baretriage/rank/Turns" "waiting" "[J" (.ref b) ∧ Fld Z h a1 "com/example/bare_triage/baretriage/rank/Turns" "count" "I" (.int (6 : Int32)) ∧ Fld Z h a1 "com/example/bare_triage/baretriage/rank/Turns" "round" "I" (.int q0) ∧ ∃ u0 u1 u2 u3 u4 u5 : Int64, oA .long Z h b [(.long u0), (.long u1), (.long u2), (.long u3), (.long u4), (.long u5), (.long (0 : Int64)), (.long (0 : Int64)), (.long (0 : Int64)), (.long (0 : Int64)), (.long (0 : Int64)), (.long (0 : Int64)), (.long (0 : Int64)), (.long (0 : Int64)), (.long (0 : Int64)), (.long (0 : Int64))] ∧ (u0.toInt ≤ u1.toInt ∧ u0.toInt ≤ u2.toInt ∧ u1.toInt ≤ u3.toInt ∧ u1.toInt ≤ u4.toInt ∧ u2.toInt ≤ u5.toInt) ∧ ∀ t, own_c t u0 + own_c t u1 + own_c t u2 + own_c t u3 + own_c t u4 + own_c t u5 = own_c t (own_key p1 p2) + own_c t w0 + own_c t w1 + own_c t w2 + own_c t w3 + own_c t w4) := by
  refine oC.of (L := #[.val (.ref a1), .val (.int p1), .val (.int p2), .unset, .unset, .unset]) pn6 Z0 (fun m => by first | (simp [entryFrame, mkF, argsToLocals, Value.category]; done) | rfl) ?_
  intro p e s m below meth c T H
  refine o_aloadN H rfl rfl d6_0 rfl ?_
  refine o_getF H (host := "") (Or.inl (w30 hw)) F_count_a1 d6_1 rfl ?_
  intro T1 H2
  refine o_aloadN H2 rfl rfl d6_4 rfl ?_
  refine o_getF H2 (host := "") (Or.inl (w23 hw)) F_waiting_a1 d6_5 rfl ?_
  intro T3 H4
  refine o_arraylength H4 (16 : Int32) A_b rfl d6_8 rfl ?_
  refine o_icmp_t H4 d6_9 (by decide) (pt := 29) (by decide) (by decide) ?_
  refine o_iloadN H4 rfl d6_29 rfl ?_
  refine o_i2l H4 d6_30 rfl ?_
  refine o_bipush H4 (32 : Int32) rfl d6_31 rfl ?_
  refine o_lshl H4 d6_33 rfl ?_
  refine o_iloadN H4 rfl d6_34 rfl ?_
  refine o_i2l H4 d6_35 rfl ?_
  refine o_lor H4 d6_36 rfl ?_
  obtain ⟨ky, e_ky⟩ : ∃ z : Int64, z = (((p1.toInt64) <<< ((32 : Int32).toInt64 &&& 63)) ||| (p2.toInt64)) := ⟨_, rfl⟩
  rw [← e_ky]
  refine o_lstoreN H4 (L' := #[.val (.ref a1), .val (.int p1), .val (.int p2), .val (.long ky), .second, .unset]) rfl d6_37 rfl ?_
  refine o_aloadN H4 rfl rfl d6_38 rfl ?_
  refine o_dup H4 rfl d6_39 rfl ?_
  refine o_getF H4 (host := "") (Or.inl (w30 hw)) F_count_a1 d6_40 rfl ?_
  intro T5 H6
  refine o_dup_x1 H6 rfl rfl d6_43 rfl ?_
  refine o_iconst H6 (1 : Int32) rfl d6_44 rfl ?_
  refine o_iadd H6 d6_45 rfl ?_
  refine o_fold (6 : Int32) (by decide) ?_
  refine o_putF H6 (host := "") (Or.inl (w30 hw)) F_count_a1 E_a1 (Or.inl (w31 hw)) (w14 hw) (ty := .int) (by decide) rfl rfl g_a1 d6_46 rfl ?_
  intro T7 h7 H7 W7
  have k8 := (Keep.refl h0 [a1, b]).wr W7 (Or.inl (by simp))
  have f9 := E_a1.wr W7
  have f10 := F_waiting_a1.other W7 (Or.inr (slot_ne (Or.inl (w24 hw)) (Or.inl (w31 hw)) (by decide) (t := (.array .long)) (t' := .int) (by decide) (by decide)))
  have f11 := F_count_a1.same W7
  have f12 := F_round_a1.other W7 (Or.inr (slot_ne (Or.inl (w50 hw)) (Or.inl (w31 hw)) (by decide) (t := .int) (t' := .int) (by decide) (by decide)))
  have f13 := A_b.other W7 (Ne.symm ne)
  refine o_istore H7 (L' := #[.val (.ref a1), .val (.int p1), .val (.int p2), .val (.long ky), .second, .val (.int (5 : Int32))]) rfl d6_49 rfl ?_
  refine o_iload H7 rfl d6_51 rfl ?_
  refine o_if_f H7 d6_53 (by decide) rfl ?_
  refine o_aloadN H7 rfl rfl d6_56 rfl ?_
  refine o_getF H7 (host := "") (Or.inl (w23 hw)) f10 d6_57 rfl ?_
  intro T14 H15
  refine o_iload H15 rfl d6_60 rfl ?_
  refine o_iconst H15 (1 : Int32) rfl d6_62 rfl ?_
  refine o_isub H15 d6_63 rfl ?_
  refine o_fold (4 : Int32) (by decide) ?_
  refine o_iconst H15 (2 : Int32) rfl d6_64 rfl ?_
  refine o_idiv H15 (by decide) d6_65 rfl ?_
  refine o_fold (2 : Int32) (by decide) ?_
  refine o_laload H15 2 (.long w2) f13 (by decide) rfl d6_66 rfl ?_
  refine o_lloadN H15 rfl d6_67 rfl ?_
  refine o_lcmp H15 d6_68 rfl ?_
  refine o_ifl_le H15 d6_69 (pt := 101) (by decide) (by decide) rfl ?_ ?_
  · intro c69_16
    refine o_aloadN H15 rfl rfl d6_101 rfl ?_
    refine o_getF H15 (host := "") (Or.inl (w23 hw)) f10 d6_102 rfl ?_
    intro T17 H18
    refine o_iload H18 rfl d6_105 rfl ?_
    refine o_lloadN H18 rfl d6_107 rfl ?_
    refine o_lastore H18 5 f13 (by decide) (Nat.le_of_ble_eq_true rfl) g_b d6_108 rfl ?_
    intro T19 h19 H19 W19 A19
    have k20 := k8.wr W19 (Or.inl (by simp))
    have f21 := f9.wr W19
    have f22 := f10.other W19 (Or.inl ne)
    have f23 := f11.other W19 (Or.inl ne)
    have f24 := f12.other W19 (Or.inl ne)
    have f25 : oA .long Z h19 b [(.long w0), (.long w1), (.long w2), (.long w3), (.long w4), (.long ky), (.long (0 : Int64)), (.long (0 : Int64)), (.long (0 : Int64)), (.long (0 : Int64)), (.long (0 : Int64)), (.long (0 : Int64)), (.long (0 : Int64)), (.long (0 : Int64)), (.long (0 : Int64)), (.long (0 : Int64))] := A19
    rw [n_ltJ] at c69_16
    have hh : w0.toInt ≤ w1.toInt ∧ w0.toInt ≤ w2.toInt ∧ w1.toInt ≤ w3.toInt ∧ w1.toInt ≤ w4.toInt ∧ w2.toInt ≤ ky.toInt := ⟨by omega, by omega, by omega, by omega, by omega⟩
    exact o_return H19 rfl d6_109 (by decide) (by decide) ⟨rfl, k20, f22, f23, f24, _, _, _, _, _, _, f25, hh, fun t => by (have e9 : own_key p1 p2 = ky := e_ky.symm); (simp only [e9]); (try omega)⟩
  · intro c69_16
    refine o_aloadN H15 rfl rfl d6_72 rfl ?_
    refine o_getF H15 (host := "") (Or.inl (w23 hw)) f10 d6_73 rfl ?_
    intro T26 H27
    refine o_iload H27 rfl d6_76 rfl ?_
    refine o_aloadN H27 rfl rfl d6_78 rfl ?_
    refine o_getF H27 (host := "") (Or.inl (w23 hw)) f10 d6_79 rfl ?_
    intro T28 H29
    refine o_iload H29 rfl d6_82 rfl ?_
    refine o_iconst H29 (1 : Int32) rfl d6_84 rfl ?_
    refine o_isub H29 d6_85 rfl ?_
    refine o_fold (4 : Int32) (by decide) ?_
    refine o_iconst H29 (2 : Int32) rfl d6_86 rfl ?_
    refine o_idiv H29 (by decide) d6_87 rfl ?_
    refine o_fold (2 : Int32) (by decide) ?_
    refine o_laload H29 2 (.long w2) f13 (by decide) rfl d6_88 rfl ?_
    refine o_lastore H29 5 f13 (by decide) (Nat.le_of_ble_eq_true rfl) g_b d6_89 rfl ?_
    intro T30 h30 H30 W30 A30
    have k31 := k8.wr W30 (Or.inl (by simp))
    have f32 := f9.wr W30
    have f33 := f10.other W30 (Or.inl ne)
    have f34 := f11.other W30 (Or.inl ne)
    have f35 := f12.other W30 (Or.inl ne)
    have f36 : oA .long Z h30 b [(.long w0), (.long w1), (.long w2), (.long w3), (.long w4), (.long w2), (.long (0 : Int64)), (.long (0 : Int64)), (.long (0 : Int64)), (.long (0 : Int64)), (.long (0 : Int64)), (.long (0 : Int64)), (.long (0 : Int64)), (.long (0 : Int64)), (.long (0 : Int64)), (.long (0 : Int64))] := A30
    refine o_iload H30 rfl d6_90 rfl ?_
    refine o_iconst H30 (1 : Int32) rfl d6_92 rfl ?_
    refine o_isub H30 d6_93 rfl ?_
    refine o_fold (4 : Int32) (by decide) ?_
    refine o_iconst H30 (2 : Int32) rfl d6_94 rfl ?_
    refine o_idiv H30 (by decide) d6_95 rfl ?_
    refine o_fold (2 : Int32) (by decide) ?_
    refine o_istore H30 (L' := #[.val (.ref a1), .val (.int p1), .val (.int p2), .val (.long ky), .second, .val (.int (2 : Int32))]) rfl d6_96 rfl ?_
    refine o_goto H30 d6_98 (pt := 51) (by decide) (by decide) ?_
    refine o_iload H30 rfl d6_51 rfl ?_
    refine o_if_f H30 d6_53 (by decide) rfl ?_
    refine o_aloadN H30 rfl rfl d6_56 rfl ?_
    refine o_getF H30 (host := "") (Or.inl (w23 hw)) f33 d6_57 rfl ?_
    intro T37 H38
    refine o_iload H38 rfl d6_60 rfl ?_
    refine o_iconst H38 (1 : Int32) rfl d6_62 rfl ?_
    refine o_isub H38 d6_63 rfl ?_
    refine o_fold (1 : Int32) (by decide) ?_
    refine o_iconst H38 (2 : Int32) rfl d6_64 rfl ?_
    refine o_idiv H38 (by decide) d6_65 rfl ?_
    refine o_fold (0 : Int32) (by decide) ?_
    refine o_laload H38 0 (.long w0) f36 (by decide) rfl d6_66 rfl ?_
    refine o_lloadN H38 rfl d6_67 rfl ?_
    refine o_lcmp H38 d6_68 rfl ?_
    refine o_ifl_le H38 d6_69 (pt := 101) (by decide) (by decide) rfl ?_ ?_
    · intro c69_39
      refine o_aloadN H38 rfl rfl d6_101 rfl ?_
      refine o_getF H38 (host := "") (Or.inl (w23 hw)) f33 d6_102 rfl ?_
      intro T40 H41
      refine o_iload H41 rfl d6_105 rfl ?_
      refine o_lloadN H41 rfl d6_107 rfl ?_
      refine o_lastore H41 2 f36 (by decide) (Nat.le_of_ble_eq_true rfl) g_b d6_108 rfl ?_
      intro T42 h42 H42 W42 A42
      have k43 := k31.wr W42 (Or.inl (by simp))
      have f44 := f32.wr W42
      have f45 := f33.other W42 (Or.inl ne)
      have f46 := f34.other W42 (Or.inl ne)
      have f47 := f35.other W42 (Or.inl ne)
      have f48 : oA .long Z h42 b [(.long w0), (.long w1), (.long ky), (.long w3), (.long w4), (.long w2), (.long (0 : Int64)), (.long (0 : Int64)), (.long (0 : Int64)), (.long (0 : Int64)), (.long (0 : Int64)), (.long (0 : Int64)), (.long (0 : Int64)), (.long (0 : Int64)), (.long (0 : Int64)), (.long (0 : Int64))] := A42
      rw [n_ltJ] at c69_16
      rw [n_ltJ] at c69_39
      have hh : w0.toInt ≤ w1.toInt ∧ w0.toInt ≤ ky.toInt ∧ w1.toInt ≤ w3.toInt ∧ w1.toInt ≤ w4.toInt ∧ ky.toInt ≤ w2.toInt := ⟨by omega, by omega, by omega, by omega, by omega⟩
      exact o_return H42 rfl d6_109 (by decide) (by decide) ⟨rfl, k43, f45, f46, f47, _, _, _, _, _, _, f48, hh, fun t => by (have e9 : own_key p1 p2 = ky := e_ky.symm); (simp only [e9]); (try omega)⟩
    · intro c69_39
      refine o_aloadN H38 rfl rfl d6_72 rfl ?_
      refine o_getF H38 (host := "") (Or.inl (w23 hw)) f33 d6_73 rfl ?_
      intro T49 H50
      refine o_iload H50 rfl d6_76 rfl ?_
      refine o_aloadN H50 rfl rfl d6_78 rfl ?_
      refine o_getF H50 (host := "") (Or.inl (w23 hw)) f33 d6_79 rfl ?_
      intro T51 H52
      refine o_iload H52 rfl d6_82 rfl ?_
      refine o_iconst H52 (1 : Int32) rfl d6_84 rfl ?_
      refine o_isub H52 d6_85 rfl ?_
      refine o_fold (1 : Int32) (by decide) ?_
      refine o_iconst H52 (2 : Int32) rfl d6_86 rfl ?_
      refine o_idiv H52 (by decide) d6_87 rfl ?_
      refine o_fold (0 : Int32) (by decide) ?_
      refine o_laload H52 0 (.long w0) f36 (by decide) rfl d6_88 rfl ?_
      refine o_lastore H52 2 f36 (by decide) (Nat.le_of_ble_eq_true rfl) g_b d6_89 rfl ?_
      intro T53 h53 H53 W53 A53
      have k54 := k31.wr W53 (Or.inl (by simp))
      have f55 := f32.wr W53
      have f56 := f33.other W53 (Or.inl ne)
      have f57 := f34.other W53 (Or.inl ne)
      have f58 := f35.other W53 (Or.inl ne)
      have f59 : oA .long Z h53 b [(.long w0), (.long w1), (.long w0), (.long w3), (.long w4), (.long w2), (.long (0 : Int64)), (.long (0 : Int64)), (.long (0 : Int64)), (.long (0 : Int64)), (.long (0 : Int64)), (.long (0 : Int64)), (.long (0 : Int64)), (.long (0 : Int64)), (.long (0 : Int64)), (.long (0 : Int64))] := A53
      refine o_iload H53 rfl d6_90 rfl ?_
      refine o_iconst H53 (1 : Int32) rfl d6_92 rfl ?_
      refine o_isub H53 d6_93 rfl ?_
      refine o_fold (1 : Int32) (by decide) ?_
      refine o_iconst H53 (2 : Int32) rfl d6_94 rfl ?_
      refine o_idiv H53 (by decide) d6_95 rfl ?_
      refine o_fold (0 : Int32) (by decide) ?_
      refine o_istore H53 (L' := #[.val (.ref a1), .val (.int p1), .val (.int p2), .val (.long ky), .second, .val (.int (0 : Int32))]) rfl d6_96 rfl ?_
      refine o_goto H53 d6_98 (pt := 51) (by decide) (by decide) ?_
      refine o_iload H53 rfl d6_51 rfl ?_
      refine o_if_t H53 d6_53 (by decide) (pt := 101) (by decide) (by decide) ?_
      refine o_aloadN H53 rfl rfl d6_101 rfl ?_
      refine o_getF H53 (host := "") (Or.inl (w23 hw)) f56 d6_102 rfl ?_
      intro T60 H61
      refine o_iload H61 rfl d6_105 rfl ?_
      refine o_lloadN H61 rfl d6_107 rfl ?_
      refine o_lastore H61 0 f59 (by decide) (Nat.le_of_ble_eq_true rfl) g_b d6_108 rfl ?_
      intro T62 h62 H62 W62 A62
      have k63 := k54.wr W62 (Or.inl (by simp))
      have f64 := f55.wr W62
      have f65 := f56.other W62 (Or.inl ne)
      have f66 := f57.other W62 (Or.inl ne)
      have f67 := f58.other W62 (Or.inl ne)
      have f68 : oA .long Z h62 b [(.long ky), (.long w1), (.long w0), (.long w3), (.long w4), (.long w2), (.long (0 : Int64)), (.long (0 : Int64)), (.long (0 : Int64)), (.long (0 : Int64)), (.long (0 : Int64)), (.long (0 : Int64)), (.long (0 : Int64)), (.long (0 : Int64)), (.long (0 : Int64)), (.long (0 : Int64))] := A62
      rw [n_ltJ] at c69_16
      rw [n_ltJ] at c69_39
      have hh : ky.toInt ≤ w1.toInt ∧ ky.toInt ≤ w0.toInt ∧ w1.toInt ≤ w3.toInt ∧ w1.toInt ≤ w4.toInt ∧ w0.toInt ≤ w2.toInt := ⟨by omega, by omega, by omega, by omega, by omega⟩
      exact o_return H62 rfl d6_109 (by decide) (by decide) ⟨rfl, k63, f65, f66, f67, _, _, _, _, _, _, f68, hh, fun t => by (have e9 : own_key p1 p2 = ky := e_ky.symm); (simp only [e9]); (try omega)⟩
theorem d12_0 : decode prog_21_method_5_code 0 = .ok (.aload_n 0, 1) := by decide +kernel
theorem d12_1 : decode prog_21_method_5_code 1 = .ok (.getfield 23, 3) := by decide +kernel
theorem d12_4 : decode prog_21_method_5_code 4 = .ok (.ireturn, 1) := by decide +kernel
theorem pn12 : plainFor (⟨"com/example/bare_triage/baretriage/rank/Turns", "round", "()I"⟩ : MethodName) = true := plainFor_of_name (by first | (simp [plainName, overriddenIn]; done) | decide +kernel)
theorem pd12 : parseMethodDescriptor "()I" = some ⟨[], some .int⟩ := by decide +kernel
set_option maxRecDepth 65536 in
set_option maxHeartbeats 40000000 in
theorem rm12 (l : Launch) (Z : State) (a0 : Array Value) (hw : ∀ d ∈ tables_1, d.before a0 Z = true) (a1 : Addr) (q0 : Int32) (h0 : Heap) (n0 : Nat) (Z0 : n0 ≤ h0.size) (F_round_a1 : Fld Z h0 a1 "com/example/bare_triage/baretriage/rank/Turns" "round" "I" (.int q0)) :
    oC l Z n0 (⟨"com/example/bare_triage/baretriage/rank/Turns", "round", "()I"⟩ : MethodName) prog_21_method_5_code 1 (some .int) ({ frames := 0, cells := 0, slots := 0, locals := 0 } : Room) 0 0 #[(.ref a1)] h0 (fun v h => v = some (.int q0) ∧ h0 = h) := by
  refine oC.of (L := #[.val (.ref a1)]) pn12 Z0 (fun m => by first | (simp [entryFrame, mkF, argsToLocals, Value.category]; done) | rfl) ?_
  intro p e s m below meth c T H
  refine o_aloadN H rfl rfl d12_0 rfl ?_
  refine o_getF H (host := "") (Or.inl (w49 hw)) F_round_a1 d12_1 rfl ?_
  intro T1 H2
  exact o_ireturn H2 rfl d12_4 (by decide) (by decide) ⟨rfl, rfl⟩
theorem d13_0 : decode prog_21_method_3_code 0 = .ok (.aload_n 0, 1) := by decide +kernel
theorem d13_1 : decode prog_21_method_3_code 1 = .ok (.getfield 13, 3) := by decide +kernel
theorem d13_4 : decode prog_21_method_3_code 4 = .ok (.ifCond .ne 7, 3) := by decide +kernel
theorem d13_7 : decode prog_21_method_3_code 7 = .ok (.iconst 1, 1) := by decide +kernel
theorem d13_8 : decode prog_21_method_3_code 8 = .ok (.goto 4, 3) := by decide +kernel
theorem d13_12 : decode prog_21_method_3_code 12 = .ok (.ireturn, 1) := by decide +kernel
theorem pn13 : plainFor (⟨"com/example/bare_triage/baretriage/rank/Turns", "isEmpty", "()Z"⟩ : MethodName) = true := plainFor_of_name (by first | (simp [plainName, overriddenIn]; done) | decide +kernel)
theorem pd13 : parseMethodDescriptor "()Z" = some ⟨[], some .boolean⟩ := by decide +kernel
set_option maxRecDepth 65536 in
set_option maxHeartbeats 40000000 in
theorem rm13 (l : Launch) (Z : State) (a0 : Array Value) (hw : ∀ d ∈ tables_1, d.before a0 Z = true) (a1 : Addr)  (h0 : Heap) (n0 : Nat) (Z0 : n0 ≤ h0.size) (F_count_a1 : Fld Z h0 a1 "com/example/bare_triage/baretriage/rank/Turns" "count" "I" (.int (0 : Int32))) :
    oC l Z n0 (⟨"com/example/bare_triage/baretriage/rank/Turns", "isEmpty", "()Z"⟩ : MethodName) prog_21_method_3_code 1 (some .boolean) ({ frames := 0, cells := 0, slots := 0, locals := 0 } : Room) 0 0 #[(.ref a1)] h0 (fun v h => v = some (.int 1) ∧ h0 = h) := by
  refine oC.of (L := #[.val (.ref a1)]) pn13 Z0 (fun m => by first | (simp [entryFrame, mkF, argsToLocals, Value.category]; done) | rfl) ?_
  intro p e s m below meth c T H
  refine o_aloadN H rfl rfl d13_0 rfl ?_
  refine o_getF H (host := "") (Or.inl (w30 hw)) F_count_a1 d13_1 rfl ?_
  intro T1 H2
  refine o_if_f H2 d13_4 (by decide) rfl ?_
  refine o_iconst H2 (1 : Int32) rfl d13_7 rfl ?_
  refine o_goto H2 d13_8 (pt := 12) (by decide) (by decide) ?_
  exact o_nreturn H2 .boolean rfl (by simp) d13_12 (by decide) (by decide) ⟨rfl, rfl⟩
theorem d11_0 : decode prog_21_method_4_code 0 = .ok (.aload_n 0, 1) := by decide +kernel
theorem d11_1 : decode prog_21_method_4_code 1 = .ok (.getfield 7, 3) := by decide +kernel
theorem d11_4 : decode prog_21_method_4_code 4 = .ok (.iconst 0, 1) := by decide +kernel
theorem d11_5 : decode prog_21_method_4_code 5 = .ok (.laload, 1) := by decide +kernel
theorem d11_6 : decode prog_21_method_4_code 6 = .ok (.lstore_n 1, 1) := by decide +kernel
theorem d11_7 : decode prog_21_method_4_code 7 = .ok (.aload_n 0, 1) := by decide +kernel
theorem d11_8 : decode prog_21_method_4_code 8 = .ok (.getfield 7, 3) := by decide +kernel
theorem d11_11 : decode prog_21_method_4_code 11 = .ok (.aload_n 0, 1) := by decide +kernel
theorem d11_12 : decode prog_21_method_4_code 12 = .ok (.dup, 1) := by decide +kernel
theorem d11_13 : decode prog_21_method_4_code 13 = .ok (.getfield 13, 3) := by decide +kernel
theorem d11_16 : decode prog_21_method_4_code 16 = .ok (.iconst 1, 1) := by decide +kernel
theorem d11_17 : decode prog_21_method_4_code 17 = .ok (.isub, 1) := by decide +kernel
theorem d11_18 : decode prog_21_method_4_code 18 = .ok (.dup_x1, 1) := by decide +kernel
theorem d11_19 : decode prog_21_method_4_code 19 = .ok (.putfield 13, 3) := by decide +kernel
theorem d11_22 : decode prog_21_method_4_code 22 = .ok (.laload, 1) := by decide +kernel
theorem d11_23 : decode prog_21_method_4_code 23 = .ok (.lstore_n 3, 1) := by decide +kernel
theorem d11_24 : decode prog_21_method_4_code 24 = .ok (.iconst 0, 1) := by decide +kernel
theorem d11_25 : decode prog_21_method_4_code 25 = .ok (.istore 5, 2) := by decide +kernel
theorem d11_27 : decode prog_21_method_4_code 27 = .ok (.iconst 2, 1) := by decide +kernel
theorem d11_28 : decode prog_21_method_4_code 28 = .ok (.iload 5, 2) := by decide +kernel
theorem d11_30 : decode prog_21_method_4_code 30 = .ok (.imul, 1) := by decide +kernel
theorem d11_31 : decode prog_21_method_4_code 31 = .ok (.iconst 1, 1) := by decide +kernel
theorem d11_32 : decode prog_21_method_4_code 32 = .ok (.iadd, 1) := by decide +kernel
theorem d11_33 : decode prog_21_method_4_code 33 = .ok (.aload_n 0, 1) := by decide +kernel
theorem d11_34 : decode prog_21_method_4_code 34 = .ok (.getfield 13, 3) := by decide +kernel
theorem d11_37 : decode prog_21_method_4_code 37 = .ok (.if_icmp .ge 81, 3) := by decide +kernel
theorem d11_40 : decode prog_21_method_4_code 40 = .ok (.iconst 2, 1) := by decide +kernel
theorem d11_41 : decode prog_21_method_4_code 41 = .ok (.iload 5, 2) := by decide +kernel
theorem d11_43 : decode prog_21_method_4_code 43 = .ok (.imul, 1) := by decide +kernel
theorem d11_44 : decode prog_21_method_4_code 44 = .ok (.iconst 1, 1) := by decide +kernel
theorem d11_45 : decode prog_21_method_4_code 45 = .ok (.iadd, 1) := by decide +kernel
theorem d11_46 : decode prog_21_method_4_code 46 = .ok (.istore 6, 2) := by decide +kernel
theorem d11_48 : decode prog_21_method_4_code 48 = .ok (.iload 6, 2) := by decide +kernel
theorem d11_50 : decode prog_21_method_4_code 50 = .ok (.iconst 1, 1) := by decide +kernel
theorem d11_51 : decode prog_21_method_4_code 51 = .ok (.iadd, 1) := by decide +kernel
theorem d11_52 : decode prog_21_method_4_code 52 = .ok (.aload_n 0, 1) := by decide +kernel
theorem d11_53 : decode prog_21_method_4_code 53 = .ok (.getfield 13, 3) := by decide +kernel
theorem d11_56 : decode prog_21_method_4_code 56 = .ok (.if_icmp .ge 26, 3) := by decide +kernel
theorem d11_59 : decode prog_21_method_4_code 59 = .ok (.aload_n 0, 1) := by decide +kernel
theorem d11_60 : decode prog_21_method_4_code 60 = .ok (.getfield 7, 3) := by decide +kernel
theorem d11_63 : decode prog_21_method_4_code 63 = .ok (.iload 6, 2) := by decide +kernel
theorem d11_65 : decode prog_21_method_4_code 65 = .ok (.iconst 1, 1) := by decide +kernel
theorem d11_66 : decode prog_21_method_4_code 66 = .ok (.iadd, 1) := by decide +kernel
theorem d11_67 : decode prog_21_method_4_code 67 = .ok (.laload, 1) := by decide +kernel
theorem d11_68 : decode prog_21_method_4_code 68 = .ok (.aload_n 0, 1) := by decide +kernel
theorem d11_69 : decode prog_21_method_4_code 69 = .ok (.getfield 7, 3) := by decide +kernel
theorem d11_72 : decode prog_21_method_4_code 72 = .ok (.iload 6, 2) := by decide +kernel
theorem d11_74 : decode prog_21_method_4_code 74 = .ok (.laload, 1) := by decide +kernel
theorem d11_75 : decode prog_21_method_4_code 75 = .ok (.lcmp, 1) := by decide +kernel
theorem d11_76 : decode prog_21_method_4_code 76 = .ok (.ifCond .ge 6, 3) := by decide +kernel
theorem d11_79 : decode prog_21_method_4_code 79 = .ok (.iinc 6 1, 3) := by decide +kernel
theorem d11_82 : decode prog_21_method_4_code 82 = .ok (.aload_n 0, 1) := by decide +kernel
theorem d11_83 : decode prog_21_method_4_code 83 = .ok (.getfield 7, 3) := by decide +kernel
theorem d11_86 : decode prog_21_method_4_code 86 = .ok (.iload 6, 2) := by decide +kernel
theorem d11_88 : decode prog_21_method_4_code 88 = .ok (.laload, 1) := by decide +kernel
theorem d11_89 : decode prog_21_method_4_code 89 = .ok (.lload_n 3, 1) := by decide +kernel
theorem d11_90 : decode prog_21_method_4_code 90 = .ok (.lcmp, 1) := by decide +kernel
theorem d11_91 : decode prog_21_method_4_code 91 = .ok (.ifCond .lt 6, 3) := by decide +kernel
theorem d11_94 : decode prog_21_method_4_code 94 = .ok (.goto 24, 3) := by decide +kernel
theorem d11_97 : decode prog_21_method_4_code 97 = .ok (.aload_n 0, 1) := by decide +kernel
theorem d11_98 : decode prog_21_method_4_code 98 = .ok (.getfield 7, 3) := by decide +kernel
theorem d11_101 : decode prog_21_method_4_code 101 = .ok (.iload 5, 2) := by decide +kernel
theorem d11_103 : decode prog_21_method_4_code 103 = .ok (.aload_n 0, 1) := by decide +kernel
theorem d11_104 : decode prog_21_method_4_code 104 = .ok (.getfield 7, 3) := by decide +kernel
theorem d11_107 : decode prog_21_method_4_code 107 = .ok (.iload 6, 2) := by decide +kernel
theorem d11_109 : decode prog_21_method_4_code 109 = .ok (.laload, 1) := by decide +kernel
theorem d11_110 : decode prog_21_method_4_code 110 = .ok (.lastore, 1) := by decide +kernel
theorem d11_111 : decode prog_21_method_4_code 111 = .ok (.iload 6, 2) := by decide +kernel
theorem d11_113 : decode prog_21_method_4_code 113 = .ok (.istore 5, 2) := by decide +kernel
theorem d11_115 : decode prog_21_method_4_code 115 = .ok (.goto (-88), 3) := by decide +kernel
theorem d11_118 : decode prog_21_method_4_code 118 = .ok (.aload_n 0, 1) := by decide +kernel
theorem d11_119 : decode prog_21_method_4_code 119 = .ok (.getfield 7, 3) := by decide +kernel
theorem d11_122 : decode prog_21_method_4_code 122 = .ok (.iload 5, 2) := by decide +kernel
theorem d11_124 : decode prog_21_method_4_code 124 = .ok (.lload_n 3, 1) := by decide +kernel
theorem d11_125 : decode prog_21_method_4_code 125 = .ok (.lastore, 1) := by decide +kernel
theorem d11_126 : decode prog_21_method_4_code 126 = .ok (.aload_n 0, 1) := by decide +kernel
theorem d11_127 : decode prog_21_method_4_code 127 = .ok (.lload_n 1, 1) := by decide +kernel
theorem d11_128 : decode prog_21_method_4_code 128 = .ok (.bipush 32, 2) := by decide +kernel
theorem d11_130 : decode prog_21_method_4_code 130 = .ok (.lushr, 1) := by decide +kernel
theorem d11_131 : decode prog_21_method_4_code 131 = .ok (.l2i, 1) := by decide +kernel
theorem d11_132 : decode prog_21_method_4_code 132 = .ok (.putfield 23, 3) := by decide +kernel
theorem d11_135 : decode prog_21_method_4_code 135 = .ok (.lload_n 1, 1) := by decide +kernel
theorem d11_136 : decode prog_21_method_4_code 136 = .ok (.l2i, 1) := by decide +kernel
theorem d11_137 : decode prog_21_method_4_code 137 = .ok (.ireturn, 1) := by decide +kernel
theorem pn11 : plainFor (⟨"com/example/bare_triage/baretriage/rank/Turns", "take", "()I"⟩ : MethodName) = true := plainFor_of_name (by first | (simp [plainName, overriddenIn]; done) | decide +kernel)
theorem pd11 : parseMethodDescriptor "()I" = some ⟨[], some .int⟩ := by decide +kernel
theorem d10_0 : decode method_7_code 0 = .ok (.aload_n 0, 1) := by decide +kernel
theorem d10_1 : decode method_7_code 1 = .ok (.invokevirtual 20, 3) := by decide +kernel
theorem d10_4 : decode method_7_code 4 = .ok (.istore_n 3, 1) := by decide +kernel
theorem d10_5 : decode method_7_code 5 = .ok (.iload_n 3, 1) := by decide +kernel
theorem d10_6 : decode method_7_code 6 = .ok (.iload_n 2, 1) := by decide +kernel
theorem d10_7 : decode method_7_code 7 = .ok (.if_icmp .ne 15, 3) := by decide +kernel
theorem d10_10 : decode method_7_code 10 = .ok (.aload_n 0, 1) := by decide +kernel
theorem d10_11 : decode method_7_code 11 = .ok (.invokevirtual 26, 3) := by decide +kernel
theorem d10_14 : decode method_7_code 14 = .ok (.iload_n 1, 1) := by decide +kernel
theorem d10_15 : decode method_7_code 15 = .ok (.if_icmp .ne 7, 3) := by decide +kernel
theorem d10_18 : decode method_7_code 18 = .ok (.iconst 1, 1) := by decide +kernel
theorem d10_19 : decode method_7_code 19 = .ok (.goto 4, 3) := by decide +kernel
theorem d10_23 : decode method_7_code 23 = .ok (.ireturn, 1) := by decide +kernel
theorem pn10 : plainFor (⟨"com/example/bare_triage/baretriage/rank/TurnsTakePinLaw", "check", "(Lcom/example/bare_triage/baretriage/rank/Turns;II)Z"⟩ : MethodName) = true := plainFor_of_name (by first | (simp [plainName, overriddenIn]; done) | decide +kernel)
theorem pd10 : parseMethodDescriptor "(Lcom/example/bare_triage/baretriage/rank/Turns;II)Z" = some ⟨[(.object "com/example/bare_triage/baretriage/rank/Turns"), .int, .int], some .boolean⟩ := by decide +kernel
set_option maxRecDepth 65536 in
set_option maxHeartbeats 40000000 in
theorem rm11_6 (l : Launch) (Z : State) (a0 : Array Value) (hw : ∀ d ∈ tables_1, d.before a0 Z = true) (a1 : Addr) (b : Addr) (q0 : Int32) (v0 v1 v2 v3 v4 v5 v6 v7 v8 v9 v10 v11 v12 v13 v14 v15 : Int64) (h0 : Heap) (n0 : Nat) (Z0 : n0 ≤ h0.size) (E_a1 : Exa Z h0 a1 "com/example/bare_triage/baretriage/rank/Turns") (g_a1 : n0 ≤ a1) (F_waiting_a1 : Fld Z h0 a1 "com/example/bare_triage/baretriage/rank/Turns" "waiting" "[J" (.ref b)) (F_count_a1 : Fld Z h0 a1 "com/example/bare_triage/baretriage/rank/Turns" "count" "I" (.int (6 : Int32))) (F_round_a1 : Fld Z h0 a1 "com/example/bare_triage/baretriage/rank/Turns" "round" "I" (.int q0)) (g_b : n0 ≤ b) (ne : a1 ≠ b) (A_b : oA .long Z h0 b [(.long v0), (.long v1), (.long v2), (.long v3), (.long v4), (.long v5), (.long v6), (.long v7), (.long v8), (.long v9), (.long v10), (.long v11), (.long v12), (.long v13), (.long v14), (.long v15)]) (hp : v0.toInt ≤ v1.toInt ∧ v0.toInt ≤ v2.toInt ∧ v1.toInt ≤ v3.toInt ∧ v1.toInt ≤ v4.toInt ∧ v2.toInt ≤ v5.toInt) :
    oC l Z n0 (⟨"com/example/bare_triage/baretriage/rank/Turns", "take", "()I"⟩ : MethodName) prog_21_method_4_code 7 (some .int) ({ frames := 0, cells := 0, slots := 0, locals := 0 } : Room) 0 0 #[(.ref a1)] h0 (fun v h => v = some (.int (v0.toInt32)) ∧ Keep h0 h [a1, b] ∧ Fld Z h a1 "com/example/bare_triage/baretriage/rank/Turns" "waiting" "[J" (.ref b) ∧ Fld Z h a1 "com/example/bare_triage/baretriage/rank/Turns" "count" "I" (.int (5 : Int32)) ∧ Fld Z h a1 "com/example/bare_triage/baretriage/rank/Turns" "round" "I" (.int ((XT.ushrL v0 (32 : Int32)).toInt32)) ∧ ∃ u0 u1 u2 u3 u4 : Int64, oA .long Z h b [(.long u0), (.long u1), (.long u2), (.long u3), (.long u4), (.long v5), (.long v6), (.long v7), (.long v8), (.long v9), (.long v10), (.long v11), (.long v12), (.long v13), (.long v14), (.long v15)] ∧ (u0.toInt ≤ u1.toInt ∧ u0.toInt ≤ u2.toInt ∧ u1.toInt ≤ u3.toInt ∧ u1.toInt ≤ u4.toInt) ∧ ∀ t, own_c t v0 + own_c t u0 + own_c t u1 + own_c t u2 + own_c t u3 + own_c t u4 = own_c t v0 + own_c t v1 + own_c t v2 + own_c t v3 + own_c t v4 + own_c t v5) := by
  refine oC.of (L := #[.val (.ref a1), .unset, .unset, .unset, .unset, .unset, .unset]) pn11 Z0 (fun m => by first | (simp [entryFrame, mkF, argsToLocals, Value.category]; done) | rfl) ?_
  intro p e s m below meth c T H
  refine o_aloadN H rfl rfl d11_0 rfl ?_
  refine o_getF H (host := "") (Or.inl (w23 hw)) F_waiting_a1 d11_1 rfl ?_
  intro T1 H2
  refine o_iconst H2 (0 : Int32) rfl d11_4 rfl ?_
  refine o_laload H2 0 (.long v0) A_b (by decide) rfl d11_5 rfl ?_
  refine o_lstoreN H2 (L' := #[.val (.ref a1), .val (.long v0), .second, .unset, .unset, .unset, .unset]) rfl d11_6 rfl ?_
  refine o_aloadN H2 rfl rfl d11_7 rfl ?_
  refine o_getF H2 (host := "") (Or.inl (w23 hw)) F_waiting_a1 d11_8 rfl ?_
  intro T3 H4
  refine o_aloadN H4 rfl rfl d11_11 rfl ?_
  refine o_dup H4 rfl d11_12 rfl ?_
  refine o_getF H4 (host := "") (Or.inl (w30 hw)) F_count_a1 d11_13 rfl ?_
  intro T5 H6
  refine o_iconst H6 (1 : Int32) rfl d11_16 rfl ?_
  refine o_isub H6 d11_17 rfl ?_
  refine o_fold (5 : Int32) (by decide) ?_
  refine o_dup_x1 H6 rfl rfl d11_18 rfl ?_
  refine o_putF H6 (host := "") (Or.inl (w30 hw)) F_count_a1 E_a1 (Or.inl (w31 hw)) (w14 hw) (ty := .int) (by decide) rfl rfl g_a1 d11_19 rfl ?_
  intro T7 h7 H7 W7
  have k8 := (Keep.refl h0 [a1, b]).wr W7 (Or.inl (by simp))
  have f9 := E_a1.wr W7
  have f10 := F_waiting_a1.other W7 (Or.inr (slot_ne (Or.inl (w24 hw)) (Or.inl (w31 hw)) (by decide) (t := (.array .long)) (t' := .int) (by decide) (by decide)))
  have f11 := F_count_a1.same W7
  have f12 := F_round_a1.other W7 (Or.inr (slot_ne (Or.inl (w50 hw)) (Or.inl (w31 hw)) (by decide) (t := .int) (t' := .int) (by decide) (by decide)))
  have f13 := A_b.other W7 (Ne.symm ne)
  refine o_laload H7 5 (.long v5) f13 (by decide) rfl d11_22 rfl ?_
  refine o_lstoreN H7 (L' := #[.val (.ref a1), .val (.long v0), .second, .val (.long v5), .second, .unset, .unset]) rfl d11_23 rfl ?_
  refine o_iconst H7 (0 : Int32) rfl d11_24 rfl ?_
  refine o_istore H7 (L' := #[.val (.ref a1), .val (.long v0), .second, .val (.long v5), .second, .val (.int (0 : Int32)), .unset]) rfl d11_25 rfl ?_
  refine o_iconst H7 (2 : Int32) rfl d11_27 rfl ?_
  refine o_iload H7 rfl d11_28 rfl ?_
  refine o_imul H7 d11_30 rfl ?_
  refine o_fold (0 : Int32) (by decide) ?_
  refine o_iconst H7 (1 : Int32) rfl d11_31 rfl ?_
  refine o_iadd H7 d11_32 rfl ?_
  refine o_fold (1 : Int32) (by decide) ?_
  refine o_aloadN H7 rfl rfl d11_33 rfl ?_
  refine o_getF H7 (host := "") (Or.inl (w30 hw)) f11 d11_34 rfl ?_
  intro T14 H15
  refine o_icmp_f H15 d11_37 (by decide) rfl ?_
  refine o_iconst H15 (2 : Int32) rfl d11_40 rfl ?_
  refine o_iload H15 rfl d11_41 rfl ?_
  refine o_imul H15 d11_43 rfl ?_
  refine o_fold (0 : Int32) (by decide) ?_
  refine o_iconst H15 (1 : Int32) rfl d11_44 rfl ?_
  refine o_iadd H15 d11_45 rfl ?_
  refine o_fold (1 : Int32) (by decide) ?_
  refine o_istore H15 (L' := #[.val (.ref a1), .val (.long v0), .second, .val (.long v5), .second, .val (.int (0 : Int32)), .val (.int (1 : Int32))]) rfl d11_46 rfl ?_
  refine o_iload H15 rfl d11_48 rfl ?_
  refine o_iconst H15 (1 : Int32) rfl d11_50 rfl ?_
  refine o_iadd H15 d11_51 rfl ?_
  refine o_fold (2 : Int32) (by decide) ?_
  refine o_aloadN H15 rfl rfl d11_52 rfl ?_
  refine o_getF H15 (host := "") (Or.inl (w30 hw)) f11 d11_53 rfl ?_
  intro T16 H17
  refine o_icmp_f H17 d11_56 (by decide) rfl ?_
  refine o_aloadN H17 rfl rfl d11_59 rfl ?_
  refine o_getF H17 (host := "") (Or.inl (w23 hw)) f10 d11_60 rfl ?_
  intro T18 H19
  refine o_iload H19 rfl d11_63 rfl ?_
  refine o_iconst H19 (1 : Int32) rfl d11_65 rfl ?_
  refine o_iadd H19 d11_66 rfl ?_
  refine o_fold (2 : Int32) (by decide) ?_
  refine o_laload H19 2 (.long v2) f13 (by decide) rfl d11_67 rfl ?_
  refine o_aloadN H19 rfl rfl d11_68 rfl ?_
  refine o_getF H19 (host := "") (Or.inl (w23 hw)) f10 d11_69 rfl ?_
  intro T20 H21
  refine o_iload H21 rfl d11_72 rfl ?_
  refine o_laload H21 1 (.long v1) f13 (by decide) rfl d11_74 rfl ?_
  refine o_lcmp H21 d11_75 rfl ?_
  refine o_ifl_ge H21 d11_76 (pt := 82) (by decide) (by decide) rfl ?_ ?_
  · intro c76_22
    refine o_aloadN H21 rfl rfl d11_82 rfl ?_
    refine o_getF H21 (host := "") (Or.inl (w23 hw)) f10 d11_83 rfl ?_
    intro T23 H24
    refine o_iload H24 rfl d11_86 rfl ?_
    refine o_laload H24 1 (.long v1) f13 (by decide) rfl d11_88 rfl ?_
    refine o_lloadN H24 rfl d11_89 rfl ?_
    refine o_lcmp H24 d11_90 rfl ?_
    refine o_ifl_lt H24 d11_91 (pt := 97) (by decide) (by decide) rfl ?_ ?_
    · intro c91_25
      refine o_aloadN H24 rfl rfl d11_97 rfl ?_
      refine o_getF H24 (host := "") (Or.inl (w23 hw)) f10 d11_98 rfl ?_
      intro T26 H27
      refine o_iload H27 rfl d11_101 rfl ?_
      refine o_aloadN H27 rfl rfl d11_103 rfl ?_
      refine o_getF H27 (host := "") (Or.inl (w23 hw)) f10 d11_104 rfl ?_
      intro T28 H29
      refine o_iload H29 rfl d11_107 rfl ?_
      refine o_laload H29 1 (.long v1) f13 (by decide) rfl d11_109 rfl ?_
      refine o_lastore H29 0 f13 (by decide) (Nat.le_of_ble_eq_true rfl) g_b d11_110 rfl ?_
      intro T30 h30 H30 W30 A30
      have k31 := k8.wr W30 (Or.inl (by simp))
      have f32 := f9.wr W30
      have f33 := f10.other W30 (Or.inl ne)
      have f34 := f11.other W30 (Or.inl ne)
      have f35 := f12.other W30 (Or.inl ne)
      have f36 : oA .long Z h30 b [(.long v1), (.long v1), (.long v2), (.long v3), (.long v4), (.long v5), (.long v6), (.long v7), (.long v8), (.long v9), (.long v10), (.long v11), (.long v12), (.long v13), (.long v14), (.long v15)] := A30
      refine o_iload H30 rfl d11_111 rfl ?_
      refine o_istore H30 (L' := #[.val (.ref a1), .val (.long v0), .second, .val (.long v5), .second, .val (.int (1 : Int32)), .val (.int (1 : Int32))]) rfl d11_113 rfl ?_
      refine o_goto H30 d11_115 (pt := 27) (by decide) (by decide) ?_
      refine o_iconst H30 (2 : Int32) rfl d11_27 rfl ?_
      refine o_iload H30 rfl d11_28 rfl ?_
      refine o_imul H30 d11_30 rfl ?_
      refine o_fold (2 : Int32) (by decide) ?_
      refine o_iconst H30 (1 : Int32) rfl d11_31 rfl ?_
      refine o_iadd H30 d11_32 rfl ?_
      refine o_fold (3 : Int32) (by decide) ?_
      refine o_aloadN H30 rfl rfl d11_33 rfl ?_
      refine o_getF H30 (host := "") (Or.inl (w30 hw)) f34 d11_34 rfl ?_
      intro T37 H38
      refine o_icmp_f H38 d11_37 (by decide) rfl ?_
      refine o_iconst H38 (2 : Int32) rfl d11_40 rfl ?_
      refine o_iload H38 rfl d11_41 rfl ?_
      refine o_imul H38 d11_43 rfl ?_
      refine o_fold (2 : Int32) (by decide) ?_
      refine o_iconst H38 (1 : Int32) rfl d11_44 rfl ?_
      refine o_iadd H38 d11_45 rfl ?_
      refine o_fold (3 : Int32) (by decide) ?_
      refine o_istore H38 (L' := #[.val (.ref a1), .val (.long v0), .second, .val (.long v5), .second, .val (.int (1 : Int32)), .val (.int (3 : Int32))]) rfl d11_46 rfl ?_
      refine o_iload H38 rfl d11_48 rfl ?_
      refine o_iconst H38 (1 : Int32) rfl d11_50 rfl ?_
      refine o_iadd H38 d11_51 rfl ?_
      refine o_fold (4 : Int32) (by decide) ?_
      refine o_aloadN H38 rfl rfl d11_52 rfl ?_
      refine o_getF H38 (host := "") (Or.inl (w30 hw)) f34 d11_53 rfl ?_
      intro T39 H40
      refine o_icmp_f H40 d11_56 (by decide) rfl ?_
      refine o_aloadN H40 rfl rfl d11_59 rfl ?_
      refine o_getF H40 (host := "") (Or.inl (w23 hw)) f33 d11_60 rfl ?_
      intro T41 H42
      refine o_iload H42 rfl d11_63 rfl ?_
      refine o_iconst H42 (1 : Int32) rfl d11_65 rfl ?_
      refine o_iadd H42 d11_66 rfl ?_
      refine o_fold (4 : Int32) (by decide) ?_
      refine o_laload H42 4 (.long v4) f36 (by decide) rfl d11_67 rfl ?_
      refine o_aloadN H42 rfl rfl d11_68 rfl ?_
      refine o_getF H42 (host := "") (Or.inl (w23 hw)) f33 d11_69 rfl ?_
      intro T43 H44
      refine o_iload H44 rfl d11_72 rfl ?_
      refine o_laload H44 3 (.long v3) f36 (by decide) rfl d11_74 rfl ?_
      refine o_lcmp H44 d11_75 rfl ?_
      refine o_ifl_ge H44 d11_76 (pt := 82) (by decide) (by decide) rfl ?_ ?_
      · intro c76_45
        refine o_aloadN H44 rfl rfl d11_82 rfl ?_
        refine o_getF H44 (host := "") (Or.inl (w23 hw)) f33 d11_83 rfl ?_
        intro T46 H47
        refine o_iload H47 rfl d11_86 rfl ?_
        refine o_laload H47 3 (.long v3) f36 (by decide) rfl d11_88 rfl ?_
        refine o_lloadN H47 rfl d11_89 rfl ?_
        refine o_lcmp H47 d11_90 rfl ?_
        refine o_ifl_lt H47 d11_91 (pt := 97) (by decide) (by decide) rfl ?_ ?_
        · intro c91_48
          refine o_aloadN H47 rfl rfl d11_97 rfl ?_
          refine o_getF H47 (host := "") (Or.inl (w23 hw)) f33 d11_98 rfl ?_
          intro T49 H50
          refine o_iload H50 rfl d11_101 rfl ?_
          refine o_aloadN H50 rfl rfl d11_103 rfl ?_
          refine o_getF H50 (host := "") (Or.inl (w23 hw)) f33 d11_104 rfl ?_
          intro T51 H52
          refine o_iload H52 rfl d11_107 rfl ?_
          refine o_laload H52 3 (.long v3) f36 (by decide) rfl d11_109 rfl ?_
          refine o_lastore H52 1 f36 (by decide) (Nat.le_of_ble_eq_true rfl) g_b d11_110 rfl ?_
          intro T53 h53 H53 W53 A53
          have k54 := k31.wr W53 (Or.inl (by simp))
          have f55 := f32.wr W53
          have f56 := f33.other W53 (Or.inl ne)
          have f57 := f34.other W53 (Or.inl ne)
          have f58 := f35.other W53 (Or.inl ne)
          have f59 : oA .long Z h53 b [(.long v1), (.long v3), (.long v2), (.long v3), (.long v4), (.long v5), (.long v6), (.long v7), (.long v8), (.long v9), (.long v10), (.long v11), (.long v12), (.long v13), (.long v14), (.long v15)] := A53
          refine o_iload H53 rfl d11_111 rfl ?_
          refine o_istore H53 (L' := #[.val (.ref a1), .val (.long v0), .second, .val (.long v5), .second, .val (.int (3 : Int32)), .val (.int (3 : Int32))]) rfl d11_113 rfl ?_
          refine o_goto H53 d11_115 (pt := 27) (by decide) (by decide) ?_
          refine o_iconst H53 (2 : Int32) rfl d11_27 rfl ?_
          refine o_iload H53 rfl d11_28 rfl ?_
          refine o_imul H53 d11_30 rfl ?_
          refine o_fold (6 : Int32) (by decide) ?_
          refine o_iconst H53 (1 : Int32) rfl d11_31 rfl ?_
          refine o_iadd H53 d11_32 rfl ?_
          refine o_fold (7 : Int32) (by decide) ?_
          refine o_aloadN H53 rfl rfl d11_33 rfl ?_
          refine o_getF H53 (host := "") (Or.inl (w30 hw)) f57 d11_34 rfl ?_
          intro T60 H61
          refine o_icmp_t H61 d11_37 (by decide) (pt := 118) (by decide) (by decide) ?_
          refine o_aloadN H61 rfl rfl d11_118 rfl ?_
          refine o_getF H61 (host := "") (Or.inl (w23 hw)) f56 d11_119 rfl ?_
          intro T62 H63
          refine o_iload H63 rfl d11_122 rfl ?_
          refine o_lloadN H63 rfl d11_124 rfl ?_
          refine o_lastore H63 3 f59 (by decide) (Nat.le_of_ble_eq_true rfl) g_b d11_125 rfl ?_
          intro T64 h64 H64 W64 A64
          have k65 := k54.wr W64 (Or.inl (by simp))
          have f66 := f55.wr W64
          have f67 := f56.other W64 (Or.inl ne)
          have f68 := f57.other W64 (Or.inl ne)
          have f69 := f58.other W64 (Or.inl ne)
          have f70 : oA .long Z h64 b [(.long v1), (.long v3), (.long v2), (.long v5), (.long v4), (.long v5), (.long v6), (.long v7), (.long v8), (.long v9), (.long v10), (.long v11), (.long v12), (.long v13), (.long v14), (.long v15)] := A64
          refine o_aloadN H64 rfl rfl d11_126 rfl ?_
          refine o_lloadN H64 rfl d11_127 rfl ?_
          refine o_bipush H64 (32 : Int32) rfl d11_128 rfl ?_
          refine o_lushr H64 d11_130 rfl ?_
          refine o_l2i H64 d11_131 rfl ?_
          refine o_putF H64 (host := "") (Or.inl (w49 hw)) f69 f66 (Or.inl (w50 hw)) (w14 hw) (ty := .int) (by decide) rfl rfl g_a1 d11_132 rfl ?_
          intro T71 h71 H71 W71
          have k72 := k65.wr W71 (Or.inl (by simp))
          have f73 := f66.wr W71
          have f74 := f67.other W71 (Or.inr (slot_ne (Or.inl (w24 hw)) (Or.inl (w50 hw)) (by decide) (t := (.array .long)) (t' := .int) (by decide) (by decide)))
          have f75 := f68.other W71 (Or.inr (slot_ne (Or.inl (w31 hw)) (Or.inl (w50 hw)) (by decide) (t := .int) (t' := .int) (by decide) (by decide)))
          have f76 := f69.same W71
          have f77 := f70.other W71 (Ne.symm ne)
          refine o_lloadN H71 rfl d11_135 rfl ?_
          refine o_l2i H71 d11_136 rfl ?_
          rw [n_ltJ] at c76_22
          rw [n_ltJ] at c91_25
          rw [n_ltJ] at c76_45
          rw [n_ltJ] at c91_48
          have hh : v1.toInt ≤ v3.toInt ∧ v1.toInt ≤ v2.toInt ∧ v3.toInt ≤ v5.toInt ∧ v3.toInt ≤ v4.toInt := ⟨by omega, by omega, by omega, by omega⟩
          exact o_ireturn H71 rfl d11_137 (by decide) (by decide) ⟨rfl, k72, f74, f75, f76, _, _, _, _, _, f77, hh, fun t => by omega⟩
        · intro c91_48
          refine o_goto H47 d11_94 (pt := 118) (by decide) (by decide) ?_
          refine o_aloadN H47 rfl rfl d11_118 rfl ?_
          refine o_getF H47 (host := "") (Or.inl (w23 hw)) f33 d11_119 rfl ?_
          intro T78 H79
          refine o_iload H79 rfl d11_122 rfl ?_
          refine o_lloadN H79 rfl d11_124 rfl ?_
          refine o_lastore H79 1 f36 (by decide) (Nat.le_of_ble_eq_true rfl) g_b d11_125 rfl ?_
          intro T80 h80 H80 W80 A80
          have k81 := k31.wr W80 (Or.inl (by simp))
          have f82 := f32.wr W80
          have f83 := f33.other W80 (Or.inl ne)
          have f84 := f34.other W80 (Or.inl ne)
          have f85 := f35.other W80 (Or.inl ne)
          have f86 : oA .long Z h80 b [(.long v1), (.long v5), (.long v2), (.long v3), (.long v4), (.long v5), (.long v6), (.long v7), (.long v8), (.long v9), (.long v10), (.long v11), (.long v12), (.long v13), (.long v14), (.long v15)] := A80
          refine o_aloadN H80 rfl rfl d11_126 rfl ?_
          refine o_lloadN H80 rfl d11_127 rfl ?_
          refine o_bipush H80 (32 : Int32) rfl d11_128 rfl ?_
          refine o_lushr H80 d11_130 rfl ?_
          refine o_l2i H80 d11_131 rfl ?_
          refine o_putF H80 (host := "") (Or.inl (w49 hw)) f85 f82 (Or.inl (w50 hw)) (w14 hw) (ty := .int) (by decide) rfl rfl g_a1 d11_132 rfl ?_
          intro T87 h87 H87 W87
          have k88 := k81.wr W87 (Or.inl (by simp))
          have f89 := f82.wr W87
          have f90 := f83.other W87 (Or.inr (slot_ne (Or.inl (w24 hw)) (Or.inl (w50 hw)) (by decide) (t := (.array .long)) (t' := .int) (by decide) (by decide)))
          have f91 := f84.other W87 (Or.inr (slot_ne (Or.inl (w31 hw)) (Or.inl (w50 hw)) (by decide) (t := .int) (t' := .int) (by decide) (by decide)))
          have f92 := f85.same W87
          have f93 := f86.other W87 (Ne.symm ne)
          refine o_lloadN H87 rfl d11_135 rfl ?_
          refine o_l2i H87 d11_136 rfl ?_
          rw [n_ltJ] at c76_22
          rw [n_ltJ] at c91_25
          rw [n_ltJ] at c76_45
          rw [n_ltJ] at c91_48
          have hh : v1.toInt ≤ v5.toInt ∧ v1.toInt ≤ v2.toInt ∧ v5.toInt ≤ v3.toInt ∧ v5.toInt ≤ v4.toInt := ⟨by omega, by omega, by omega, by omega⟩
          exact o_ireturn H87 rfl d11_137 (by decide) (by decide) ⟨rfl, k88, f90, f91, f92, _, _, _, _, _, f93, hh, fun t => by omega⟩
      · intro c76_45
        refine o_iinc H44 (1 : Int32) (4 : Int32) rfl (by decide) rfl (L' := #[.val (.ref a1), .val (.long v0), .second, .val (.long v5), .second, .val (.int (1 : Int32)), .val (.int (4 : Int32))]) rfl d11_79 rfl ?_
        refine o_aloadN H44 rfl rfl d11_82 rfl ?_
        refine o_getF H44 (host := "") (Or.inl (w23 hw)) f33 d11_83 rfl ?_
        intro T94 H95
        refine o_iload H95 rfl d11_86 rfl ?_
        refine o_laload H95 4 (.long v4) f36 (by decide) rfl d11_88 rfl ?_
        refine o_lloadN H95 rfl d11_89 rfl ?_
        refine o_lcmp H95 d11_90 rfl ?_
        refine o_ifl_lt H95 d11_91 (pt := 97) (by decide) (by decide) rfl ?_ ?_
        · intro c91_96
          refine o_aloadN H95 rfl rfl d11_97 rfl ?_
          refine o_getF H95 (host := "") (Or.inl (w23 hw)) f33 d11_98 rfl ?_
          intro T97 H98
          refine o_iload H98 rfl d11_101 rfl ?_
          refine o_aloadN H98 rfl rfl d11_103 rfl ?_
          refine o_getF H98 (host := "") (Or.inl (w23 hw)) f33 d11_104 rfl ?_
          intro T99 H100
          refine o_iload H100 rfl d11_107 rfl ?_
          refine o_laload H100 4 (.long v4) f36 (by decide) rfl d11_109 rfl ?_
          refine o_lastore H100 1 f36 (by decide) (Nat.le_of_ble_eq_true rfl) g_b d11_110 rfl ?_
          intro T101 h101 H101 W101 A101
          have k102 := k31.wr W101 (Or.inl (by simp))
          have f103 := f32.wr W101
          have f104 := f33.other W101 (Or.inl ne)
          have f105 := f34.other W101 (Or.inl ne)
          have f106 := f35.other W101 (Or.inl ne)
          have f107 : oA .long Z h101 b [(.long v1), (.long v4), (.long v2), (.long v3), (.long v4), (.long v5), (.long v6), (.long v7), (.long v8), (.long v9), (.long v10), (.long v11), (.long v12), (.long v13), (.long v14), (.long v15)] := A101
          refine o_iload H101 rfl d11_111 rfl ?_
          refine o_istore H101 (L' := #[.val (.ref a1), .val (.long v0), .second, .val (.long v5), .second, .val (.int (4 : Int32)), .val (.int (4 : Int32))]) rfl d11_113 rfl ?_
          refine o_goto H101 d11_115 (pt := 27) (by decide) (by decide) ?_
          refine o_iconst H101 (2 : Int32) rfl d11_27 rfl ?_
          refine o_iload H101 rfl d11_28 rfl ?_
          refine o_imul H101 d11_30 rfl ?_
          refine o_fold (8 : Int32) (by decide) ?_
          refine o_iconst H101 (1 : Int32) rfl d11_31 rfl ?_
          refine o_iadd H101 d11_32 rfl ?_
          refine o_fold (9 : Int32) (by decide) ?_
          refine o_aloadN H101 rfl rfl d11_33 rfl ?_
          refine o_getF H101 (host := "") (Or.inl (w30 hw)) f105 d11_34 rfl ?_
          intro T108 H109
          refine o_icmp_t H109 d11_37 (by decide) (pt := 118) (by decide) (by decide) ?_
          refine o_aloadN H109 rfl rfl d11_118 rfl ?_
          refine o_getF H109 (host := "") (Or.inl (w23 hw)) f104 d11_119 rfl ?_
          intro T110 H111
          refine o_iload H111 rfl d11_122 rfl ?_
          refine o_lloadN H111 rfl d11_124 rfl ?_
          refine o_lastore H111 4 f107 (by decide) (Nat.le_of_ble_eq_true rfl) g_b d11_125 rfl ?_
          intro T112 h112 H112 W112 A112
          have k113 := k102.wr W112 (Or.inl (by simp))
          have f114 := f103.wr W112
          have f115 := f104.other W112 (Or.inl ne)
          have f116 := f105.other W112 (Or.inl ne)
          have f117 := f106.other W112 (Or.inl ne)
          have f118 : oA .long Z h112 b [(.long v1), (.long v4), (.long v2), (.long v3), (.long v5), (.long v5), (.long v6), (.long v7), (.long v8), (.long v9), (.long v10), (.long v11), (.long v12), (.long v13), (.long v14), (.long v15)] := A112
          refine o_aloadN H112 rfl rfl d11_126 rfl ?_
          refine o_lloadN H112 rfl d11_127 rfl ?_
          refine o_bipush H112 (32 : Int32) rfl d11_128 rfl ?_
          refine o_lushr H112 d11_130 rfl ?_
          refine o_l2i H112 d11_131 rfl ?_
          refine o_putF H112 (host := "") (Or.inl (w49 hw)) f117 f114 (Or.inl (w50 hw)) (w14 hw) (ty := .int) (by decide) rfl rfl g_a1 d11_132 rfl ?_
          intro T119 h119 H119 W119
          have k120 := k113.wr W119 (Or.inl (by simp))
          have f121 := f114.wr W119
          have f122 := f115.other W119 (Or.inr (slot_ne (Or.inl (w24 hw)) (Or.inl (w50 hw)) (by decide) (t := (.array .long)) (t' := .int) (by decide) (by decide)))
          have f123 := f116.other W119 (Or.inr (slot_ne (Or.inl (w31 hw)) (Or.inl (w50 hw)) (by decide) (t := .int) (t' := .int) (by decide) (by decide)))
          have f124 := f117.same W119
          have f125 := f118.other W119 (Ne.symm ne)
          refine o_lloadN H119 rfl d11_135 rfl ?_
          refine o_l2i H119 d11_136 rfl ?_
          rw [n_ltJ] at c76_22
          rw [n_ltJ] at c91_25
          rw [n_ltJ] at c76_45
          rw [n_ltJ] at c91_96
          have hh : v1.toInt ≤ v4.toInt ∧ v1.toInt ≤ v2.toInt ∧ v4.toInt ≤ v3.toInt ∧ v4.toInt ≤ v5.toInt := ⟨by omega, by omega, by omega, by omega⟩
          exact o_ireturn H119 rfl d11_137 (by decide) (by decide) ⟨rfl, k120, f122, f123, f124, _, _, _, _, _, f125, hh, fun t => by omega⟩
        · intro c91_96
          refine o_goto H95 d11_94 (pt := 118) (by decide) (by decide) ?_
          refine o_aloadN H95 rfl rfl d11_118 rfl ?_
          refine o_getF H95 (host := "") (Or.inl (w23 hw)) f33 d11_119 rfl ?_
          intro T126 H127
          refine o_iload H127 rfl d11_122 rfl ?_
          refine o_lloadN H127 rfl d11_124 rfl ?_
          refine o_lastore H127 1 f36 (by decide) (Nat.le_of_ble_eq_true rfl) g_b d11_125 rfl ?_
          intro T128 h128 H128 W128 A128
          have k129 := k31.wr W128 (Or.inl (by simp))
          have f130 := f32.wr W128
          have f131 := f33.other W128 (Or.inl ne)
          have f132 := f34.other W128 (Or.inl ne)
          have f133 := f35.other W128 (Or.inl ne)
          have f134 : oA .long Z h128 b [(.long v1), (.long v5), (.long v2), (.long v3), (.long v4), (.long v5), (.long v6), (.long v7), (.long v8), (.long v9), (.long v10), (.long v11), (.long v12), (.long v13), (.long v14), (.long v15)] := A128
          refine o_aloadN H128 rfl rfl d11_126 rfl ?_
          refine o_lloadN H128 rfl d11_127 rfl ?_
          refine o_bipush H128 (32 : Int32) rfl d11_128 rfl ?_
          refine o_lushr H128 d11_130 rfl ?_
          refine o_l2i H128 d11_131 rfl ?_
          refine o_putF H128 (host := "") (Or.inl (w49 hw)) f133 f130 (Or.inl (w50 hw)) (w14 hw) (ty := .int) (by decide) rfl rfl g_a1 d11_132 rfl ?_
          intro T135 h135 H135 W135
          have k136 := k129.wr W135 (Or.inl (by simp))
          have f137 := f130.wr W135
          have f138 := f131.other W135 (Or.inr (slot_ne (Or.inl (w24 hw)) (Or.inl (w50 hw)) (by decide) (t := (.array .long)) (t' := .int) (by decide) (by decide)))
          have f139 := f132.other W135 (Or.inr (slot_ne (Or.inl (w31 hw)) (Or.inl (w50 hw)) (by decide) (t := .int) (t' := .int) (by decide) (by decide)))
          have f140 := f133.same W135
          have f141 := f134.other W135 (Ne.symm ne)
          refine o_lloadN H135 rfl d11_135 rfl ?_
          refine o_l2i H135 d11_136 rfl ?_
          rw [n_ltJ] at c76_22
          rw [n_ltJ] at c91_25
          rw [n_ltJ] at c76_45
          rw [n_ltJ] at c91_96
          have hh : v1.toInt ≤ v5.toInt ∧ v1.toInt ≤ v2.toInt ∧ v5.toInt ≤ v3.toInt ∧ v5.toInt ≤ v4.toInt := ⟨by omega, by omega, by omega, by omega⟩
          exact o_ireturn H135 rfl d11_137 (by decide) (by decide) ⟨rfl, k136, f138, f139, f140, _, _, _, _, _, f141, hh, fun t => by omega⟩
    · intro c91_25
      refine o_goto H24 d11_94 (pt := 118) (by decide) (by decide) ?_
      refine o_aloadN H24 rfl rfl d11_118 rfl ?_
      refine o_getF H24 (host := "") (Or.inl (w23 hw)) f10 d11_119 rfl ?_
      intro T142 H143
      refine o_iload H143 rfl d11_122 rfl ?_
      refine o_lloadN H143 rfl d11_124 rfl ?_
      refine o_lastore H143 0 f13 (by decide) (Nat.le_of_ble_eq_true rfl) g_b d11_125 rfl ?_
      intro T144 h144 H144 W144 A144
      have k145 := k8.wr W144 (Or.inl (by simp))
      have f146 := f9.wr W144
      have f147 := f10.other W144 (Or.inl ne)
      have f148 := f11.other W144 (Or.inl ne)
      have f149 := f12.other W144 (Or.inl ne)
      have f150 : oA .long Z h144 b [(.long v5), (.long v1), (.long v2), (.long v3), (.long v4), (.long v5), (.long v6), (.long v7), (.long v8), (.long v9), (.long v10), (.long v11), (.long v12), (.long v13), (.long v14), (.long v15)] := A144
      refine o_aloadN H144 rfl rfl d11_126 rfl ?_
      refine o_lloadN H144 rfl d11_127 rfl ?_
      refine o_bipush H144 (32 : Int32) rfl d11_128 rfl ?_
      refine o_lushr H144 d11_130 rfl ?_
      refine o_l2i H144 d11_131 rfl ?_
      refine o_putF H144 (host := "") (Or.inl (w49 hw)) f149 f146 (Or.inl (w50 hw)) (w14 hw) (ty := .int) (by decide) rfl rfl g_a1 d11_132 rfl ?_
      intro T151 h151 H151 W151
      have k152 := k145.wr W151 (Or.inl (by simp))
      have f153 := f146.wr W151
      have f154 := f147.other W151 (Or.inr (slot_ne (Or.inl (w24 hw)) (Or.inl (w50 hw)) (by decide) (t := (.array .long)) (t' := .int) (by decide) (by decide)))
      have f155 := f148.other W151 (Or.inr (slot_ne (Or.inl (w31 hw)) (Or.inl (w50 hw)) (by decide) (t := .int) (t' := .int) (by decide) (by decide)))
      have f156 := f149.same W151
      have f157 := f150.other W151 (Ne.symm ne)
      refine o_lloadN H151 rfl d11_135 rfl ?_
      refine o_l2i H151 d11_136 rfl ?_
      rw [n_ltJ] at c76_22
      rw [n_ltJ] at c91_25
      have hh : v5.toInt ≤ v1.toInt ∧ v5.toInt ≤ v2.toInt ∧ v1.toInt ≤ v3.toInt ∧ v1.toInt ≤ v4.toInt := ⟨by omega, by omega, by omega, by omega⟩
      exact o_ireturn H151 rfl d11_137 (by decide) (by decide) ⟨rfl, k152, f154, f155, f156, _, _, _, _, _, f157, hh, fun t => by omega⟩
  · intro c76_22
    refine o_iinc H21 (1 : Int32) (2 : Int32) rfl (by decide) rfl (L' := #[.val (.ref a1), .val (.long v0), .second, .val (.long v5), .second, .val (.int (0 : Int32)), .val (.int (2 : Int32))]) rfl d11_79 rfl ?_
    refine o_aloadN H21 rfl rfl d11_82 rfl ?_
    refine o_getF H21 (host := "") (Or.inl (w23 hw)) f10 d11_83 rfl ?_
    intro T158 H159
    refine o_iload H159 rfl d11_86 rfl ?_
    refine o_laload H159 2 (.long v2) f13 (by decide) rfl d11_88 rfl ?_
    refine o_lloadN H159 rfl d11_89 rfl ?_
    refine o_lcmp H159 d11_90 rfl ?_
    refine o_ifl_lt H159 d11_91 (pt := 97) (by decide) (by decide) rfl ?_ ?_
    · intro c91_160
      refine o_aloadN H159 rfl rfl d11_97 rfl ?_
      refine o_getF H159 (host := "") (Or.inl (w23 hw)) f10 d11_98 rfl ?_
      intro T161 H162
      refine o_iload H162 rfl d11_101 rfl ?_
      refine o_aloadN H162 rfl rfl d11_103 rfl ?_
      refine o_getF H162 (host := "") (Or.inl (w23 hw)) f10 d11_104 rfl ?_
      intro T163 H164
      refine o_iload H164 rfl d11_107 rfl ?_
      refine o_laload H164 2 (.long v2) f13 (by decide) rfl d11_109 rfl ?_
      refine o_lastore H164 0 f13 (by decide) (Nat.le_of_ble_eq_true rfl) g_b d11_110 rfl ?_
      intro T165 h165 H165 W165 A165
      have k166 := k8.wr W165 (Or.inl (by simp))
      have f167 := f9.wr W165
      have f168 := f10.other W165 (Or.inl ne)
      have f169 := f11.other W165 (Or.inl ne)
      have f170 := f12.other W165 (Or.inl ne)
      have f171 : oA .long Z h165 b [(.long v2), (.long v1), (.long v2), (.long v3), (.long v4), (.long v5), (.long v6), (.long v7), (.long v8), (.long v9), (.long v10), (.long v11), (.long v12), (.long v13), (.long v14), (.long v15)] := A165
      refine o_iload H165 rfl d11_111 rfl ?_
      refine o_istore H165 (L' := #[.val (.ref a1), .val (.long v0), .second, .val (.long v5), .second, .val (.int (2 : Int32)), .val (.int (2 : Int32))]) rfl d11_113 rfl ?_
      refine o_goto H165 d11_115 (pt := 27) (by decide) (by decide) ?_
      refine o_iconst H165 (2 : Int32) rfl d11_27 rfl ?_
      refine o_iload H165 rfl d11_28 rfl ?_
      refine o_imul H165 d11_30 rfl ?_
      refine o_fold (4 : Int32) (by decide) ?_
      refine o_iconst H165 (1 : Int32) rfl d11_31 rfl ?_
      refine o_iadd H165 d11_32 rfl ?_
      refine o_fold (5 : Int32) (by decide) ?_
      refine o_aloadN H165 rfl rfl d11_33 rfl ?_
      refine o_getF H165 (host := "") (Or.inl (w30 hw)) f169 d11_34 rfl ?_
      intro T172 H173
      refine o_icmp_t H173 d11_37 (by decide) (pt := 118) (by decide) (by decide) ?_
      refine o_aloadN H173 rfl rfl d11_118 rfl ?_
      refine o_getF H173 (host := "") (Or.inl (w23 hw)) f168 d11_119 rfl ?_
      intro T174 H175
      refine o_iload H175 rfl d11_122 rfl ?_
      refine o_lloadN H175 rfl d11_124 rfl ?_
      refine o_lastore H175 2 f171 (by decide) (Nat.le_of_ble_eq_true rfl) g_b d11_125 rfl ?_
      intro T176 h176 H176 W176 A176
      have k177 := k166.wr W176 (Or.inl (by simp))
      have f178 := f167.wr W176
      have f179 := f168.other W176 (Or.inl ne)
      have f180 := f169.other W176 (Or.inl ne)
      have f181 := f170.other W176 (Or.inl ne)
      have f182 : oA .long Z h176 b [(.long v2), (.long v1), (.long v5), (.long v3), (.long v4), (.long v5), (.long v6), (.long v7), (.long v8), (.long v9), (.long v10), (.long v11), (.long v12), (.long v13), (.long v14), (.long v15)] := A176
      refine o_aloadN H176 rfl rfl d11_126 rfl ?_
      refine o_lloadN H176 rfl d11_127 rfl ?_
      refine o_bipush H176 (32 : Int32) rfl d11_128 rfl ?_
      refine o_lushr H176 d11_130 rfl ?_
      refine o_l2i H176 d11_131 rfl ?_
      refine o_putF H176 (host := "") (Or.inl (w49 hw)) f181 f178 (Or.inl (w50 hw)) (w14 hw) (ty := .int) (by decide) rfl rfl g_a1 d11_132 rfl ?_
      intro T183 h183 H183 W183
      have k184 := k177.wr W183 (Or.inl (by simp))
      have f185 := f178.wr W183
      have f186 := f179.other W183 (Or.inr (slot_ne (Or.inl (w24 hw)) (Or.inl (w50 hw)) (by decide) (t := (.array .long)) (t' := .int) (by decide) (by decide)))
      have f187 := f180.other W183 (Or.inr (slot_ne (Or.inl (w31 hw)) (Or.inl (w50 hw)) (by decide) (t := .int) (t' := .int) (by decide) (by decide)))
      have f188 := f181.same W183
      have f189 := f182.other W183 (Ne.symm ne)
      refine o_lloadN H183 rfl d11_135 rfl ?_
      refine o_l2i H183 d11_136 rfl ?_
      rw [n_ltJ] at c76_22
      rw [n_ltJ] at c91_160
      have hh : v2.toInt ≤ v1.toInt ∧ v2.toInt ≤ v5.toInt ∧ v1.toInt ≤ v3.toInt ∧ v1.toInt ≤ v4.toInt := ⟨by omega, by omega, by omega, by omega⟩
      exact o_ireturn H183 rfl d11_137 (by decide) (by decide) ⟨rfl, k184, f186, f187, f188, _, _, _, _, _, f189, hh, fun t => by omega⟩
    · intro c91_160
      refine o_goto H159 d11_94 (pt := 118) (by decide) (by decide) ?_
      refine o_aloadN H159 rfl rfl d11_118 rfl ?_
      refine o_getF H159 (host := "") (Or.inl (w23 hw)) f10 d11_119 rfl ?_
      intro T190 H191
      refine o_iload H191 rfl d11_122 rfl ?_
      refine o_lloadN H191 rfl d11_124 rfl ?_
      refine o_lastore H191 0 f13 (by decide) (Nat.le_of_ble_eq_true rfl) g_b d11_125 rfl ?_
      intro T192 h192 H192 W192 A192
      have k193 := k8.wr W192 (Or.inl (by simp))
      have f194 := f9.wr W192
      have f195 := f10.other W192 (Or.inl ne)
      have f196 := f11.other W192 (Or.inl ne)
      have f197 := f12.other W192 (Or.inl ne)
      have f198 : oA .long Z h192 b [(.long v5), (.long v1), (.long v2), (.long v3), (.long v4), (.long v5), (.long v6), (.long v7), (.long v8), (.long v9), (.long v10), (.long v11), (.long v12), (.long v13), (.long v14), (.long v15)] := A192
      refine o_aloadN H192 rfl rfl d11_126 rfl ?_
      refine o_lloadN H192 rfl d11_127 rfl ?_
      refine o_bipush H192 (32 : Int32) rfl d11_128 rfl ?_
      refine o_lushr H192 d11_130 rfl ?_
      refine o_l2i H192 d11_131 rfl ?_
      refine o_putF H192 (host := "") (Or.inl (w49 hw)) f197 f194 (Or.inl (w50 hw)) (w14 hw) (ty := .int) (by decide) rfl rfl g_a1 d11_132 rfl ?_
      intro T199 h199 H199 W199
      have k200 := k193.wr W199 (Or.inl (by simp))
      have f201 := f194.wr W199
      have f202 := f195.other W199 (Or.inr (slot_ne (Or.inl (w24 hw)) (Or.inl (w50 hw)) (by decide) (t := (.array .long)) (t' := .int) (by decide) (by decide)))
      have f203 := f196.other W199 (Or.inr (slot_ne (Or.inl (w31 hw)) (Or.inl (w50 hw)) (by decide) (t := .int) (t' := .int) (by decide) (by decide)))
      have f204 := f197.same W199
      have f205 := f198.other W199 (Ne.symm ne)
      refine o_lloadN H199 rfl d11_135 rfl ?_
      refine o_l2i H199 d11_136 rfl ?_
      rw [n_ltJ] at c76_22
      rw [n_ltJ] at c91_160
      have hh : v5.toInt ≤ v1.toInt ∧ v5.toInt ≤ v2.toInt ∧ v1.toInt ≤ v3.toInt ∧ v1.toInt ≤ v4.toInt := ⟨by omega, by omega, by omega, by omega⟩
      exact o_ireturn H199 rfl d11_137 (by decide) (by decide) ⟨rfl, k200, f202, f203, f204, _, _, _, _, _, f205, hh, fun t => by omega⟩
set_option maxRecDepth 65536 in
set_option maxHeartbeats 40000000 in
theorem rm10_6 (l : Launch) (Z : State) (a0 : Array Value) (hw : ∀ d ∈ tables_1, d.before a0 Z = true) (a1 : Addr) (p1 : Int32) (p2 : Int32) (b : Addr) (q0 : Int32) (v0 v1 v2 v3 v4 v5 v6 v7 v8 v9 v10 v11 v12 v13 v14 v15 : Int64) (h0 : Heap) (n0 : Nat) (Z0 : n0 ≤ h0.size) (E_a1 : Exa Z h0 a1 "com/example/bare_triage/baretriage/rank/Turns") (g_a1 : n0 ≤ a1) (F_waiting_a1 : Fld Z h0 a1 "com/example/bare_triage/baretriage/rank/Turns" "waiting" "[J" (.ref b)) (F_count_a1 : Fld Z h0 a1 "com/example/bare_triage/baretriage/rank/Turns" "count" "I" (.int (6 : Int32))) (F_round_a1 : Fld Z h0 a1 "com/example/bare_triage/baretriage/rank/Turns" "round" "I" (.int q0)) (g_b : n0 ≤ b) (ne : a1 ≠ b) (A_b : oA .long Z h0 b [(.long v0), (.long v1), (.long v2), (.long v3), (.long v4), (.long v5), (.long v6), (.long v7), (.long v8), (.long v9), (.long v10), (.long v11), (.long v12), (.long v13), (.long v14), (.long v15)]) (hp : v0.toInt ≤ v1.toInt ∧ v0.toInt ≤ v2.toInt ∧ v1.toInt ≤ v3.toInt ∧ v1.toInt ≤ v4.toInt ∧ v2.toInt ≤ v5.toInt) (hq1 : v0.toInt32 = p2) (hq2 : (XT.ushrL v0 (32 : Int32)).toInt32 = p1) :
    oC l Z n0 (⟨"com/example/bare_triage/baretriage/rank/TurnsTakePinLaw", "check", "(Lcom/example/bare_triage/baretriage/rank/Turns;II)Z"⟩ : MethodName) method_7_code 4 (some .boolean) ({ frames := 1, cells := 0, slots := 0, locals := 18 } : Room) 0 0 #[(.ref a1), (.int p1), (.int p2)] h0 (fun v h => v = some (.int (1 : Int32)) ∧ Keep h0 h [a1, b] ∧ Fld Z h a1 "com/example/bare_triage/baretriage/rank/Turns" "waiting" "[J" (.ref b) ∧ Fld Z h a1 "com/example/bare_triage/baretriage/rank/Turns" "count" "I" (.int (5 : Int32)) ∧ Fld Z h a1 "com/example/bare_triage/baretriage/rank/Turns" "round" "I" (.int ((XT.ushrL v0 (32 : Int32)).toInt32)) ∧ ∃ u0 u1 u2 u3 u4 : Int64, oA .long Z h b [(.long u0), (.long u1), (.long u2), (.long u3), (.long u4), (.long v5), (.long v6), (.long v7), (.long v8), (.long v9), (.long v10), (.long v11), (.long v12), (.long v13), (.long v14), (.long v15)] ∧ (u0.toInt ≤ u1.toInt ∧ u0.toInt ≤ u2.toInt ∧ u1.toInt ≤ u3.toInt ∧ u1.toInt ≤ u4.toInt) ∧ ∀ t, own_c t v0 + own_c t u0 + own_c t u1 + own_c t u2 + own_c t u3 + own_c t u4 = own_c t v0 + own_c t v1 + own_c t v2 + own_c t v3 + own_c t v4 + own_c t v5) := by
  refine oC.of (L := #[.val (.ref a1), .val (.int p1), .val (.int p2), .unset]) pn10 Z0 (fun m => by first | (simp [entryFrame, mkF, argsToLocals, Value.category]; done) | rfl) ?_
  intro p e s m below meth c T H
  refine o_aloadN H rfl rfl d10_0 rfl ?_
  refine o_virtual H [] [] (rm11_6 l Z a0 hw a1 b q0 v0 v1 v2 v3 v4 v5 v6 v7 v8 v9 v10 v11 v12 v13 v14 v15 h0 n0 H.le E_a1 g_a1 F_waiting_a1 F_count_a1 F_round_a1 g_b ne A_b hp) E_a1 (w44 hw) (w45 hw) (o_nf (w47 hw)) (w47 hw) (w46 hw) (w15 hw) (w48 hw) (by decide) (lenOf pd11 rfl) rfl rfl (by decide) (Nat.le_of_ble_eq_true rfl) (by decide) (by decide) d10_1 rfl ?_
  intro T1 v1 h1 H1 q1
  obtain ⟨rfl, K1, Fw1, Fc1, Fr1, u1_0, u1_1, u1_2, u1_3, u1_4, A1, hp1, ct1⟩ := q1
  have k2 := (Keep.refl h0 [a1, b]).trans K1 (allS (Or.inl (by simp)) (allS (Or.inl (by simp)) all0))
  have f3 := E_a1.keep K1
  show oG p e below s n0 _ _ _ (T1.setTop (mkF m 4 #[.val (.ref a1), .val (.int p1), .val (.int p2), .unset] [(.int (v0.toInt32))]))
  refine o_istoreN H1 (L' := #[.val (.ref a1), .val (.int p1), .val (.int p2), .val (.int (v0.toInt32))]) rfl d10_4 rfl ?_
  refine o_iloadN H1 rfl d10_5 rfl ?_
  refine o_iloadN H1 rfl d10_6 rfl ?_
  refine o_icmp_f H1 d10_7 (XT.ii_ne_f hq1) rfl ?_
  refine o_aloadN H1 rfl rfl d10_10 rfl ?_
  refine o_virtual H1 [] [] (rm12 l Z a0 hw a1 ((XT.ushrL v0 (32 : Int32)).toInt32) h1 n0 H1.le Fr1) f3 (w51 hw) (w52 hw) (o_nf (w54 hw)) (w54 hw) (w53 hw) (w15 hw) (w55 hw) (by decide) (lenOf pd12 rfl) rfl rfl (by decide) (Nat.le_of_ble_eq_true rfl) (by decide) (by decide) d10_11 rfl ?_
  intro T4 v4 h4 H4 q4
  obtain ⟨rfl, rfl⟩ := q4
  show oG p e below s n0 _ _ _ (T4.setTop (mkF m 14 #[.val (.ref a1), .val (.int p1), .val (.int p2), .val (.int (v0.toInt32))] [(.int ((XT.ushrL v0 (32 : Int32)).toInt32))]))
  refine o_iloadN H4 rfl d10_14 rfl ?_
  refine o_icmp_f H4 d10_15 (XT.ii_ne_f hq2) rfl ?_
  refine o_iconst H4 (1 : Int32) rfl d10_18 rfl ?_
  refine o_goto H4 d10_19 (pt := 23) (by decide) (by decide) ?_
  exact o_nreturn H4 .boolean rfl (by simp) d10_23 (by decide) (by decide) ⟨rfl, k2, Fw1, Fc1, Fr1, _, _, _, _, _, A1, hp1, ct1⟩
set_option maxRecDepth 65536 in
set_option maxHeartbeats 40000000 in
theorem rm11_5 (l : Launch) (Z : State) (a0 : Array Value) (hw : ∀ d ∈ tables_1, d.before a0 Z = true) (a1 : Addr) (b : Addr) (q0 : Int32) (v0 v1 v2 v3 v4 v5 v6 v7 v8 v9 v10 v11 v12 v13 v14 v15 : Int64) (h0 : Heap) (n0 : Nat) (Z0 : n0 ≤ h0.size) (E_a1 : Exa Z h0 a1 "com/example/bare_triage/baretriage/rank/Turns") (g_a1 : n0 ≤ a1) (F_waiting_a1 : Fld Z h0 a1 "com/example/bare_triage/baretriage/rank/Turns" "waiting" "[J" (.ref b)) (F_count_a1 : Fld Z h0 a1 "com/example/bare_triage/baretriage/rank/Turns" "count" "I" (.int (5 : Int32))) (F_round_a1 : Fld Z h0 a1 "com/example/bare_triage/baretriage/rank/Turns" "round" "I" (.int q0)) (g_b : n0 ≤ b) (ne : a1 ≠ b) (A_b : oA .long Z h0 b [(.long v0), (.long v1), (.long v2), (.long v3), (.long v4), (.long v5), (.long v6), (.long v7), (.long v8), (.long v9), (.long v10), (.long v11), (.long v12), (.long v13), (.long v14), (.long v15)]) (hp : v0.toInt ≤ v1.toInt ∧ v0.toInt ≤ v2.toInt ∧ v1.toInt ≤ v3.toInt ∧ v1.toInt ≤ v4.toInt) :
    oC l Z n0 (⟨"com/example/bare_triage/baretriage/rank/Turns", "take", "()I"⟩ : MethodName) prog_21_method_4_code 7 (some .int) ({ frames := 0, cells := 0, slots := 0, locals := 0 } : Room) 0 0 #[(.ref a1)] h0 (fun v h => v = some (.int (v0.toInt32)) ∧ Keep h0 h [a1, b] ∧ Fld Z h a1 "com/example/bare_triage/baretriage/rank/Turns" "waiting" "[J" (.ref b) ∧ Fld Z h a1 "com/example/bare_triage/baretriage/rank/Turns" "count" "I" (.int (4 : Int32)) ∧ Fld Z h a1 "com/example/bare_triage/baretriage/rank/Turns" "round" "I" (.int ((XT.ushrL v0 (32 : Int32)).toInt32)) ∧ ∃ u0 u1 u2 u3 : Int64, oA .long Z h b [(.long u0), (.long u1), (.long u2), (.long u3), (.long v4), (.long v5), (.long v6), (.long v7), (.long v8), (.long v9), (.long v10), (.long v11), (.long v12), (.long v13), (.long v14), (.long v15)] ∧ (u0.toInt ≤ u1.toInt ∧ u0.toInt ≤ u2.toInt ∧ u1.toInt ≤ u3.toInt) ∧ ∀ t, own_c t v0 + own_c t u0 + own_c t u1 + own_c t u2 + own_c t u3 = own_c t v0 + own_c t v1 + own_c t v2 + own_c t v3 + own_c t v4) := by
  refine oC.of (L := #[.val (.ref a1), .unset, .unset, .unset, .unset, .unset, .unset]) pn11 Z0 (fun m => by first | (simp [entryFrame, mkF, argsToLocals, Value.category]; done) | rfl) ?_
  intro p e s m below meth c T H
  refine o_aloadN H rfl rfl d11_0 rfl ?_
  refine o_getF H (host := "") (Or.inl (w23 hw)) F_waiting_a1 d11_1 rfl ?_
  intro T1 H2
  refine o_iconst H2 (0 : Int32) rfl d11_4 rfl ?_
  refine o_laload H2 0 (.long v0) A_b (by decide) rfl d11_5 rfl ?_
  refine o_lstoreN H2 (L' := #[.val (.ref a1), .val (.long v0), .second, .unset, .unset, .unset, .unset]) rfl d11_6 rfl ?_
  refine o_aloadN H2 rfl rfl d11_7 rfl ?_
  refine o_getF H2 (host := "") (Or.inl (w23 hw)) F_waiting_a1 d11_8 rfl ?_
  intro T3 H4
  refine o_aloadN H4 rfl rfl d11_11 rfl ?_
  refine o_dup H4 rfl d11_12 rfl ?_
  refine o_getF H4 (host := "") (Or.inl (w30 hw)) F_count_a1 d11_13 rfl ?_
  intro T5 H6
  refine o_iconst H6 (1 : Int32) rfl d11_16 rfl ?_
  refine o_isub H6 d11_17 rfl ?_
  refine o_fold (4 : Int32) (by decide) ?_
  refine o_dup_x1 H6 rfl rfl d11_18 rfl ?_
  refine o_putF H6 (host := "") (Or.inl (w30 hw)) F_count_a1 E_a1 (Or.inl (w31 hw)) (w14 hw) (ty := .int) (by decide) rfl rfl g_a1 d11_19 rfl ?_
  intro T7 h7 H7 W7
  have k8 := (Keep.refl h0 [a1, b]).wr W7 (Or.inl (by simp))
  have f9 := E_a1.wr W7
  have f10 := F_waiting_a1.other W7 (Or.inr (slot_ne (Or.inl (w24 hw)) (Or.inl (w31 hw)) (by decide) (t := (.array .long)) (t' := .int) (by decide) (by decide)))
  have f11 := F_count_a1.same W7
  have f12 := F_round_a1.other W7 (Or.inr (slot_ne (Or.inl (w50 hw)) (Or.inl (w31 hw)) (by decide) (t := .int) (t' := .int) (by decide) (by decide)))
  have f13 := A_b.other W7 (Ne.symm ne)
  refine o_laload H7 4 (.long v4) f13 (by decide) rfl d11_22 rfl ?_
  refine o_lstoreN H7 (L' := #[.val (.ref a1), .val (.long v0), .second, .val (.long v4), .second, .unset, .unset]) rfl d11_23 rfl ?_
  refine o_iconst H7 (0 : Int32) rfl d11_24 rfl ?_
  refine o_istore H7 (L' := #[.val (.ref a1), .val (.long v0), .second, .val (.long v4), .second, .val (.int (0 : Int32)), .unset]) rfl d11_25 rfl ?_
  refine o_iconst H7 (2 : Int32) rfl d11_27 rfl ?_
  refine o_iload H7 rfl d11_28 rfl ?_
  refine o_imul H7 d11_30 rfl ?_
  refine o_fold (0 : Int32) (by decide) ?_
  refine o_iconst H7 (1 : Int32) rfl d11_31 rfl ?_
  refine o_iadd H7 d11_32 rfl ?_
  refine o_fold (1 : Int32) (by decide) ?_
  refine o_aloadN H7 rfl rfl d11_33 rfl ?_
  refine o_getF H7 (host := "") (Or.inl (w30 hw)) f11 d11_34 rfl ?_
  intro T14 H15
  refine o_icmp_f H15 d11_37 (by decide) rfl ?_
  refine o_iconst H15 (2 : Int32) rfl d11_40 rfl ?_
  refine o_iload H15 rfl d11_41 rfl ?_
  refine o_imul H15 d11_43 rfl ?_
  refine o_fold (0 : Int32) (by decide) ?_
  refine o_iconst H15 (1 : Int32) rfl d11_44 rfl ?_
  refine o_iadd H15 d11_45 rfl ?_
  refine o_fold (1 : Int32) (by decide) ?_
  refine o_istore H15 (L' := #[.val (.ref a1), .val (.long v0), .second, .val (.long v4), .second, .val (.int (0 : Int32)), .val (.int (1 : Int32))]) rfl d11_46 rfl ?_
  refine o_iload H15 rfl d11_48 rfl ?_
  refine o_iconst H15 (1 : Int32) rfl d11_50 rfl ?_
  refine o_iadd H15 d11_51 rfl ?_
  refine o_fold (2 : Int32) (by decide) ?_
  refine o_aloadN H15 rfl rfl d11_52 rfl ?_
  refine o_getF H15 (host := "") (Or.inl (w30 hw)) f11 d11_53 rfl ?_
  intro T16 H17
  refine o_icmp_f H17 d11_56 (by decide) rfl ?_
  refine o_aloadN H17 rfl rfl d11_59 rfl ?_
  refine o_getF H17 (host := "") (Or.inl (w23 hw)) f10 d11_60 rfl ?_
  intro T18 H19
  refine o_iload H19 rfl d11_63 rfl ?_
  refine o_iconst H19 (1 : Int32) rfl d11_65 rfl ?_
  refine o_iadd H19 d11_66 rfl ?_
  refine o_fold (2 : Int32) (by decide) ?_
  refine o_laload H19 2 (.long v2) f13 (by decide) rfl d11_67 rfl ?_
  refine o_aloadN H19 rfl rfl d11_68 rfl ?_
  refine o_getF H19 (host := "") (Or.inl (w23 hw)) f10 d11_69 rfl ?_
  intro T20 H21
  refine o_iload H21 rfl d11_72 rfl ?_
  refine o_laload H21 1 (.long v1) f13 (by decide) rfl d11_74 rfl ?_
  refine o_lcmp H21 d11_75 rfl ?_
  refine o_ifl_ge H21 d11_76 (pt := 82) (by decide) (by decide) rfl ?_ ?_
  · intro c76_22
    refine o_aloadN H21 rfl rfl d11_82 rfl ?_
    refine o_getF H21 (host := "") (Or.inl (w23 hw)) f10 d11_83 rfl ?_
    intro T23 H24
    refine o_iload H24 rfl d11_86 rfl ?_
    refine o_laload H24 1 (.long v1) f13 (by decide) rfl d11_88 rfl ?_
    refine o_lloadN H24 rfl d11_89 rfl ?_
    refine o_lcmp H24 d11_90 rfl ?_
    refine o_ifl_lt H24 d11_91 (pt := 97) (by decide) (by decide) rfl ?_ ?_
    · intro c91_25
      refine o_aloadN H24 rfl rfl d11_97 rfl ?_
      refine o_getF H24 (host := "") (Or.inl (w23 hw)) f10 d11_98 rfl ?_
      intro T26 H27
      refine o_iload H27 rfl d11_101 rfl ?_
      refine o_aloadN H27 rfl rfl d11_103 rfl ?_
      refine o_getF H27 (host := "") (Or.inl (w23 hw)) f10 d11_104 rfl ?_
      intro T28 H29
      refine o_iload H29 rfl d11_107 rfl ?_
      refine o_laload H29 1 (.long v1) f13 (by decide) rfl d11_109 rfl ?_
      refine o_lastore H29 0 f13 (by decide) (Nat.le_of_ble_eq_true rfl) g_b d11_110 rfl ?_
      intro T30 h30 H30 W30 A30
      have k31 := k8.wr W30 (Or.inl (by simp))
      have f32 := f9.wr W30
      have f33 := f10.other W30 (Or.inl ne)
      have f34 := f11.other W30 (Or.inl ne)
      have f35 := f12.other W30 (Or.inl ne)
      have f36 : oA .long Z h30 b [(.long v1), (.long v1), (.long v2), (.long v3), (.long v4), (.long v5), (.long v6), (.long v7), (.long v8), (.long v9), (.long v10), (.long v11), (.long v12), (.long v13), (.long v14), (.long v15)] := A30
      refine o_iload H30 rfl d11_111 rfl ?_
      refine o_istore H30 (L' := #[.val (.ref a1), .val (.long v0), .second, .val (.long v4), .second, .val (.int (1 : Int32)), .val (.int (1 : Int32))]) rfl d11_113 rfl ?_
      refine o_goto H30 d11_115 (pt := 27) (by decide) (by decide) ?_
      refine o_iconst H30 (2 : Int32) rfl d11_27 rfl ?_
      refine o_iload H30 rfl d11_28 rfl ?_
      refine o_imul H30 d11_30 rfl ?_
      refine o_fold (2 : Int32) (by decide) ?_
      refine o_iconst H30 (1 : Int32) rfl d11_31 rfl ?_
      refine o_iadd H30 d11_32 rfl ?_
      refine o_fold (3 : Int32) (by decide) ?_
      refine o_aloadN H30 rfl rfl d11_33 rfl ?_
      refine o_getF H30 (host := "") (Or.inl (w30 hw)) f34 d11_34 rfl ?_
      intro T37 H38
      refine o_icmp_f H38 d11_37 (by decide) rfl ?_
      refine o_iconst H38 (2 : Int32) rfl d11_40 rfl ?_
      refine o_iload H38 rfl d11_41 rfl ?_
      refine o_imul H38 d11_43 rfl ?_
      refine o_fold (2 : Int32) (by decide) ?_
      refine o_iconst H38 (1 : Int32) rfl d11_44 rfl ?_
      refine o_iadd H38 d11_45 rfl ?_
      refine o_fold (3 : Int32) (by decide) ?_
      refine o_istore H38 (L' := #[.val (.ref a1), .val (.long v0), .second, .val (.long v4), .second, .val (.int (1 : Int32)), .val (.int (3 : Int32))]) rfl d11_46 rfl ?_
      refine o_iload H38 rfl d11_48 rfl ?_
      refine o_iconst H38 (1 : Int32) rfl d11_50 rfl ?_
      refine o_iadd H38 d11_51 rfl ?_
      refine o_fold (4 : Int32) (by decide) ?_
      refine o_aloadN H38 rfl rfl d11_52 rfl ?_
      refine o_getF H38 (host := "") (Or.inl (w30 hw)) f34 d11_53 rfl ?_
      intro T39 H40
      refine o_icmp_t H40 d11_56 (by decide) (pt := 82) (by decide) (by decide) ?_
      refine o_aloadN H40 rfl rfl d11_82 rfl ?_
      refine o_getF H40 (host := "") (Or.inl (w23 hw)) f33 d11_83 rfl ?_
      intro T41 H42
      refine o_iload H42 rfl d11_86 rfl ?_
      refine o_laload H42 3 (.long v3) f36 (by decide) rfl d11_88 rfl ?_
      refine o_lloadN H42 rfl d11_89 rfl ?_
      refine o_lcmp H42 d11_90 rfl ?_
      refine o_ifl_lt H42 d11_91 (pt := 97) (by decide) (by decide) rfl ?_ ?_
      · intro c91_43
        refine o_aloadN H42 rfl rfl d11_97 rfl ?_
        refine o_getF H42 (host := "") (Or.inl (w23 hw)) f33 d11_98 rfl ?_
        intro T44 H45
        refine o_iload H45 rfl d11_101 rfl ?_
        refine o_aloadN H45 rfl rfl d11_103 rfl ?_
        refine o_getF H45 (host := "") (Or.inl (w23 hw)) f33 d11_104 rfl ?_
        intro T46 H47
        refine o_iload H47 rfl d11_107 rfl ?_
        refine o_laload H47 3 (.long v3) f36 (by decide) rfl d11_109 rfl ?_
        refine o_lastore H47 1 f36 (by decide) (Nat.le_of_ble_eq_true rfl) g_b d11_110 rfl ?_
        intro T48 h48 H48 W48 A48
        have k49 := k31.wr W48 (Or.inl (by simp))
        have f50 := f32.wr W48
        have f51 := f33.other W48 (Or.inl ne)
        have f52 := f34.other W48 (Or.inl ne)
        have f53 := f35.other W48 (Or.inl ne)
        have f54 : oA .long Z h48 b [(.long v1), (.long v3), (.long v2), (.long v3), (.long v4), (.long v5), (.long v6), (.long v7), (.long v8), (.long v9), (.long v10), (.long v11), (.long v12), (.long v13), (.long v14), (.long v15)] := A48
        refine o_iload H48 rfl d11_111 rfl ?_
        refine o_istore H48 (L' := #[.val (.ref a1), .val (.long v0), .second, .val (.long v4), .second, .val (.int (3 : Int32)), .val (.int (3 : Int32))]) rfl d11_113 rfl ?_
        refine o_goto H48 d11_115 (pt := 27) (by decide) (by decide) ?_
        refine o_iconst H48 (2 : Int32) rfl d11_27 rfl ?_
        refine o_iload H48 rfl d11_28 rfl ?_
        refine o_imul H48 d11_30 rfl ?_
        refine o_fold (6 : Int32) (by decide) ?_
        refine o_iconst H48 (1 : Int32) rfl d11_31 rfl ?_
        refine o_iadd H48 d11_32 rfl ?_
        refine o_fold (7 : Int32) (by decide) ?_
        refine o_aloadN H48 rfl rfl d11_33 rfl ?_
        refine o_getF H48 (host := "") (Or.inl (w30 hw)) f52 d11_34 rfl ?_
        intro T55 H56
        refine o_icmp_t H56 d11_37 (by decide) (pt := 118) (by decide) (by decide) ?_
        refine o_aloadN H56 rfl rfl d11_118 rfl ?_
        refine o_getF H56 (host := "") (Or.inl (w23 hw)) f51 d11_119 rfl ?_
        intro T57 H58
        refine o_iload H58 rfl d11_122 rfl ?_
        refine o_lloadN H58 rfl d11_124 rfl ?_
        refine o_lastore H58 3 f54 (by decide) (Nat.le_of_ble_eq_true rfl) g_b d11_125 rfl ?_
        intro T59 h59 H59 W59 A59
        have k60 := k49.wr W59 (Or.inl (by simp))
        have f61 := f50.wr W59
        have f62 := f51.other W59 (Or.inl ne)
        have f63 := f52.other W59 (Or.inl ne)
        have f64 := f53.other W59 (Or.inl ne)
        have f65 : oA .long Z h59 b [(.long v1), (.long v3), (.long v2), (.long v4), (.long v4), (.long v5), (.long v6), (.long v7), (.long v8), (.long v9), (.long v10), (.long v11), (.long v12), (.long v13), (.long v14), (.long v15)] := A59
        refine o_aloadN H59 rfl rfl d11_126 rfl ?_
        refine o_lloadN H59 rfl d11_127 rfl ?_
        refine o_bipush H59 (32 : Int32) rfl d11_128 rfl ?_
        refine o_lushr H59 d11_130 rfl ?_
        refine o_l2i H59 d11_131 rfl ?_
        refine o_putF H59 (host := "") (Or.inl (w49 hw)) f64 f61 (Or.inl (w50 hw)) (w14 hw) (ty := .int) (by decide) rfl rfl g_a1 d11_132 rfl ?_
        intro T66 h66 H66 W66
        have k67 := k60.wr W66 (Or.inl (by simp))
        have f68 := f61.wr W66
        have f69 := f62.other W66 (Or.inr (slot_ne (Or.inl (w24 hw)) (Or.inl (w50 hw)) (by decide) (t := (.array .long)) (t' := .int) (by decide) (by decide)))
        have f70 := f63.other W66 (Or.inr (slot_ne (Or.inl (w31 hw)) (Or.inl (w50 hw)) (by decide) (t := .int) (t' := .int) (by decide) (by decide)))
        have f71 := f64.same W66
        have f72 := f65.other W66 (Ne.symm ne)
        refine o_lloadN H66 rfl d11_135 rfl ?_
        refine o_l2i H66 d11_136 rfl ?_
        rw [n_ltJ] at c76_22
        rw [n_ltJ] at c91_25
        rw [n_ltJ] at c91_43
        have hh : v1.toInt ≤ v3.toInt ∧ v1.toInt ≤ v2.toInt ∧ v3.toInt ≤ v4.toInt := ⟨by omega, by omega, by omega⟩
        exact o_ireturn H66 rfl d11_137 (by decide) (by decide) ⟨rfl, k67, f69, f70, f71, _, _, _, _, f72, hh, fun t => by omega⟩
      · intro c91_43
        refine o_goto H42 d11_94 (pt := 118) (by decide) (by decide) ?_
        refine o_aloadN H42 rfl rfl d11_118 rfl ?_
        refine o_getF H42 (host := "") (Or.inl (w23 hw)) f33 d11_119 rfl ?_
        intro T73 H74
        refine o_iload H74 rfl d11_122 rfl ?_
        refine o_lloadN H74 rfl d11_124 rfl ?_
        refine o_lastore H74 1 f36 (by decide) (Nat.le_of_ble_eq_true rfl) g_b d11_125 rfl ?_
        intro T75 h75 H75 W75 A75
        have k76 := k31.wr W75 (Or.inl (by simp))
        have f77 := f32.wr W75
        have f78 := f33.other W75 (Or.inl ne)
        have f79 := f34.other W75 (Or.inl ne)
        have f80 := f35.other W75 (Or.inl ne)
        have f81 : oA .long Z h75 b [(.long v1), (.long v4), (.long v2), (.long v3), (.long v4), (.long v5), (.long v6), (.long v7), (.long v8), (.long v9), (.long v10), (.long v11), (.long v12), (.long v13), (.long v14), (.long v15)] := A75
        refine o_aloadN H75 rfl rfl d11_126 rfl ?_
        refine o_lloadN H75 rfl d11_127 rfl ?_
        refine o_bipush H75 (32 : Int32) rfl d11_128 rfl ?_
        refine o_lushr H75 d11_130 rfl ?_
        refine o_l2i H75 d11_131 rfl ?_
        refine o_putF H75 (host := "") (Or.inl (w49 hw)) f80 f77 (Or.inl (w50 hw)) (w14 hw) (ty := .int) (by decide) rfl rfl g_a1 d11_132 rfl ?_
        intro T82 h82 H82 W82
        have k83 := k76.wr W82 (Or.inl (by simp))
        have f84 := f77.wr W82
        have f85 := f78.other W82 (Or.inr (slot_ne (Or.inl (w24 hw)) (Or.inl (w50 hw)) (by decide) (t := (.array .long)) (t' := .int) (by decide) (by decide)))
        have f86 := f79.other W82 (Or.inr (slot_ne (Or.inl (w31 hw)) (Or.inl (w50 hw)) (by decide) (t := .int) (t' := .int) (by decide) (by decide)))
        have f87 := f80.same W82
        have f88 := f81.other W82 (Ne.symm ne)
        refine o_lloadN H82 rfl d11_135 rfl ?_
        refine o_l2i H82 d11_136 rfl ?_
        rw [n_ltJ] at c76_22
        rw [n_ltJ] at c91_25
        rw [n_ltJ] at c91_43
        have hh : v1.toInt ≤ v4.toInt ∧ v1.toInt ≤ v2.toInt ∧ v4.toInt ≤ v3.toInt := ⟨by omega, by omega, by omega⟩
        exact o_ireturn H82 rfl d11_137 (by decide) (by decide) ⟨rfl, k83, f85, f86, f87, _, _, _, _, f88, hh, fun t => by omega⟩
    · intro c91_25
      refine o_goto H24 d11_94 (pt := 118) (by decide) (by decide) ?_
      refine o_aloadN H24 rfl rfl d11_118 rfl ?_
      refine o_getF H24 (host := "") (Or.inl (w23 hw)) f10 d11_119 rfl ?_
      intro T89 H90
      refine o_iload H90 rfl d11_122 rfl ?_
      refine o_lloadN H90 rfl d11_124 rfl ?_
      refine o_lastore H90 0 f13 (by decide) (Nat.le_of_ble_eq_true rfl) g_b d11_125 rfl ?_
      intro T91 h91 H91 W91 A91
      have k92 := k8.wr W91 (Or.inl (by simp))
      have f93 := f9.wr W91
      have f94 := f10.other W91 (Or.inl ne)
      have f95 := f11.other W91 (Or.inl ne)
      have f96 := f12.other W91 (Or.inl ne)
      have f97 : oA .long Z h91 b [(.long v4), (.long v1), (.long v2), (.long v3), (.long v4), (.long v5), (.long v6), (.long v7), (.long v8), (.long v9), (.long v10), (.long v11), (.long v12), (.long v13), (.long v14), (.long v15)] := A91
      refine o_aloadN H91 rfl rfl d11_126 rfl ?_
      refine o_lloadN H91 rfl d11_127 rfl ?_
      refine o_bipush H91 (32 : Int32) rfl d11_128 rfl ?_
      refine o_lushr H91 d11_130 rfl ?_
      refine o_l2i H91 d11_131 rfl ?_
      refine o_putF H91 (host := "") (Or.inl (w49 hw)) f96 f93 (Or.inl (w50 hw)) (w14 hw) (ty := .int) (by decide) rfl rfl g_a1 d11_132 rfl ?_
      intro T98 h98 H98 W98
      have k99 := k92.wr W98 (Or.inl (by simp))
      have f100 := f93.wr W98
      have f101 := f94.other W98 (Or.inr (slot_ne (Or.inl (w24 hw)) (Or.inl (w50 hw)) (by decide) (t := (.array .long)) (t' := .int) (by decide) (by decide)))
      have f102 := f95.other W98 (Or.inr (slot_ne (Or.inl (w31 hw)) (Or.inl (w50 hw)) (by decide) (t := .int) (t' := .int) (by decide) (by decide)))
      have f103 := f96.same W98
      have f104 := f97.other W98 (Ne.symm ne)
      refine o_lloadN H98 rfl d11_135 rfl ?_
      refine o_l2i H98 d11_136 rfl ?_
      rw [n_ltJ] at c76_22
      rw [n_ltJ] at c91_25
      have hh : v4.toInt ≤ v1.toInt ∧ v4.toInt ≤ v2.toInt ∧ v1.toInt ≤ v3.toInt := ⟨by omega, by omega, by omega⟩
      exact o_ireturn H98 rfl d11_137 (by decide) (by decide) ⟨rfl, k99, f101, f102, f103, _, _, _, _, f104, hh, fun t => by omega⟩
  · intro c76_22
    refine o_iinc H21 (1 : Int32) (2 : Int32) rfl (by decide) rfl (L' := #[.val (.ref a1), .val (.long v0), .second, .val (.long v4), .second, .val (.int (0 : Int32)), .val (.int (2 : Int32))]) rfl d11_79 rfl ?_
    refine o_aloadN H21 rfl rfl d11_82 rfl ?_
    refine o_getF H21 (host := "") (Or.inl (w23 hw)) f10 d11_83 rfl ?_
    intro T105 H106
    refine o_iload H106 rfl d11_86 rfl ?_
    refine o_laload H106 2 (.long v2) f13 (by decide) rfl d11_88 rfl ?_
    refine o_lloadN H106 rfl d11_89 rfl ?_
    refine o_lcmp H106 d11_90 rfl ?_
    refine o_ifl_lt H106 d11_91 (pt := 97) (by decide) (by decide) rfl ?_ ?_
    · intro c91_107
      refine o_aloadN H106 rfl rfl d11_97 rfl ?_
      refine o_getF H106 (host := "") (Or.inl (w23 hw)) f10 d11_98 rfl ?_
      intro T108 H109
      refine o_iload H109 rfl d11_101 rfl ?_
      refine o_aloadN H109 rfl rfl d11_103 rfl ?_
      refine o_getF H109 (host := "") (Or.inl (w23 hw)) f10 d11_104 rfl ?_
      intro T110 H111
      refine o_iload H111 rfl d11_107 rfl ?_
      refine o_laload H111 2 (.long v2) f13 (by decide) rfl d11_109 rfl ?_
      refine o_lastore H111 0 f13 (by decide) (Nat.le_of_ble_eq_true rfl) g_b d11_110 rfl ?_
      intro T112 h112 H112 W112 A112
      have k113 := k8.wr W112 (Or.inl (by simp))
      have f114 := f9.wr W112
      have f115 := f10.other W112 (Or.inl ne)
      have f116 := f11.other W112 (Or.inl ne)
      have f117 := f12.other W112 (Or.inl ne)
      have f118 : oA .long Z h112 b [(.long v2), (.long v1), (.long v2), (.long v3), (.long v4), (.long v5), (.long v6), (.long v7), (.long v8), (.long v9), (.long v10), (.long v11), (.long v12), (.long v13), (.long v14), (.long v15)] := A112
      refine o_iload H112 rfl d11_111 rfl ?_
      refine o_istore H112 (L' := #[.val (.ref a1), .val (.long v0), .second, .val (.long v4), .second, .val (.int (2 : Int32)), .val (.int (2 : Int32))]) rfl d11_113 rfl ?_
      refine o_goto H112 d11_115 (pt := 27) (by decide) (by decide) ?_
      refine o_iconst H112 (2 : Int32) rfl d11_27 rfl ?_
      refine o_iload H112 rfl d11_28 rfl ?_
      refine o_imul H112 d11_30 rfl ?_
      refine o_fold (4 : Int32) (by decide) ?_
      refine o_iconst H112 (1 : Int32) rfl d11_31 rfl ?_
      refine o_iadd H112 d11_32 rfl ?_
      refine o_fold (5 : Int32) (by decide) ?_
      refine o_aloadN H112 rfl rfl d11_33 rfl ?_
      refine o_getF H112 (host := "") (Or.inl (w30 hw)) f116 d11_34 rfl ?_
      intro T119 H120
      refine o_icmp_t H120 d11_37 (by decide) (pt := 118) (by decide) (by decide) ?_
      refine o_aloadN H120 rfl rfl d11_118 rfl ?_
      refine o_getF H120 (host := "") (Or.inl (w23 hw)) f115 d11_119 rfl ?_
      intro T121 H122
      refine o_iload H122 rfl d11_122 rfl ?_
      refine o_lloadN H122 rfl d11_124 rfl ?_
      refine o_lastore H122 2 f118 (by decide) (Nat.le_of_ble_eq_true rfl) g_b d11_125 rfl ?_
      intro T123 h123 H123 W123 A123
      have k124 := k113.wr W123 (Or.inl (by simp))
      have f125 := f114.wr W123
      have f126 := f115.other W123 (Or.inl ne)
      have f127 := f116.other W123 (Or.inl ne)
      have f128 := f117.other W123 (Or.inl ne)
      have f129 : oA .long Z h123 b [(.long v2), (.long v1), (.long v4), (.long v3), (.long v4), (.long v5), (.long v6), (.long v7), (.long v8), (.long v9), (.long v10), (.long v11), (.long v12), (.long v13), (.long v14), (.long v15)] := A123
      refine o_aloadN H123 rfl rfl d11_126 rfl ?_
      refine o_lloadN H123 rfl d11_127 rfl ?_
      refine o_bipush H123 (32 : Int32) rfl d11_128 rfl ?_
      refine o_lushr H123 d11_130 rfl ?_
      refine o_l2i H123 d11_131 rfl ?_
      refine o_putF H123 (host := "") (Or.inl (w49 hw)) f128 f125 (Or.inl (w50 hw)) (w14 hw) (ty := .int) (by decide) rfl rfl g_a1 d11_132 rfl ?_
      intro T130 h130 H130 W130
      have k131 := k124.wr W130 (Or.inl (by simp))
      have f132 := f125.wr W130
      have f133 := f126.other W130 (Or.inr (slot_ne (Or.inl (w24 hw)) (Or.inl (w50 hw)) (by decide) (t := (.array .long)) (t' := .int) (by decide) (by decide)))
      have f134 := f127.other W130 (Or.inr (slot_ne (Or.inl (w31 hw)) (Or.inl (w50 hw)) (by decide) (t := .int) (t' := .int) (by decide) (by decide)))
      have f135 := f128.same W130
      have f136 := f129.other W130 (Ne.symm ne)
      refine o_lloadN H130 rfl d11_135 rfl ?_
      refine o_l2i H130 d11_136 rfl ?_
      rw [n_ltJ] at c76_22
      rw [n_ltJ] at c91_107
      have hh : v2.toInt ≤ v1.toInt ∧ v2.toInt ≤ v4.toInt ∧ v1.toInt ≤ v3.toInt := ⟨by omega, by omega, by omega⟩
      exact o_ireturn H130 rfl d11_137 (by decide) (by decide) ⟨rfl, k131, f133, f134, f135, _, _, _, _, f136, hh, fun t => by omega⟩
    · intro c91_107
      refine o_goto H106 d11_94 (pt := 118) (by decide) (by decide) ?_
      refine o_aloadN H106 rfl rfl d11_118 rfl ?_
      refine o_getF H106 (host := "") (Or.inl (w23 hw)) f10 d11_119 rfl ?_
      intro T137 H138
      refine o_iload H138 rfl d11_122 rfl ?_
      refine o_lloadN H138 rfl d11_124 rfl ?_
      refine o_lastore H138 0 f13 (by decide) (Nat.le_of_ble_eq_true rfl) g_b d11_125 rfl ?_
      intro T139 h139 H139 W139 A139
      have k140 := k8.wr W139 (Or.inl (by simp))
      have f141 := f9.wr W139
      have f142 := f10.other W139 (Or.inl ne)
      have f143 := f11.other W139 (Or.inl ne)
      have f144 := f12.other W139 (Or.inl ne)
      have f145 : oA .long Z h139 b [(.long v4), (.long v1), (.long v2), (.long v3), (.long v4), (.long v5), (.long v6), (.long v7), (.long v8), (.long v9), (.long v10), (.long v11), (.long v12), (.long v13), (.long v14), (.long v15)] := A139
      refine o_aloadN H139 rfl rfl d11_126 rfl ?_
      refine o_lloadN H139 rfl d11_127 rfl ?_
      refine o_bipush H139 (32 : Int32) rfl d11_128 rfl ?_
      refine o_lushr H139 d11_130 rfl ?_
      refine o_l2i H139 d11_131 rfl ?_
      refine o_putF H139 (host := "") (Or.inl (w49 hw)) f144 f141 (Or.inl (w50 hw)) (w14 hw) (ty := .int) (by decide) rfl rfl g_a1 d11_132 rfl ?_
      intro T146 h146 H146 W146
      have k147 := k140.wr W146 (Or.inl (by simp))
      have f148 := f141.wr W146
      have f149 := f142.other W146 (Or.inr (slot_ne (Or.inl (w24 hw)) (Or.inl (w50 hw)) (by decide) (t := (.array .long)) (t' := .int) (by decide) (by decide)))
      have f150 := f143.other W146 (Or.inr (slot_ne (Or.inl (w31 hw)) (Or.inl (w50 hw)) (by decide) (t := .int) (t' := .int) (by decide) (by decide)))
      have f151 := f144.same W146
      have f152 := f145.other W146 (Ne.symm ne)
      refine o_lloadN H146 rfl d11_135 rfl ?_
      refine o_l2i H146 d11_136 rfl ?_
      rw [n_ltJ] at c76_22
      rw [n_ltJ] at c91_107
      have hh : v4.toInt ≤ v1.toInt ∧ v4.toInt ≤ v2.toInt ∧ v1.toInt ≤ v3.toInt := ⟨by omega, by omega, by omega⟩
      exact o_ireturn H146 rfl d11_137 (by decide) (by decide) ⟨rfl, k147, f149, f150, f151, _, _, _, _, f152, hh, fun t => by omega⟩
set_option maxRecDepth 65536 in
set_option maxHeartbeats 40000000 in
theorem rm10_5 (l : Launch) (Z : State) (a0 : Array Value) (hw : ∀ d ∈ tables_1, d.before a0 Z = true) (a1 : Addr) (p1 : Int32) (p2 : Int32) (b : Addr) (q0 : Int32) (v0 v1 v2 v3 v4 v5 v6 v7 v8 v9 v10 v11 v12 v13 v14 v15 : Int64) (h0 : Heap) (n0 : Nat) (Z0 : n0 ≤ h0.size) (E_a1 : Exa Z h0 a1 "com/example/bare_triage/baretriage/rank/Turns") (g_a1 : n0 ≤ a1) (F_waiting_a1 : Fld Z h0 a1 "com/example/bare_triage/baretriage/rank/Turns" "waiting" "[J" (.ref b)) (F_count_a1 : Fld Z h0 a1 "com/example/bare_triage/baretriage/rank/Turns" "count" "I" (.int (5 : Int32))) (F_round_a1 : Fld Z h0 a1 "com/example/bare_triage/baretriage/rank/Turns" "round" "I" (.int q0)) (g_b : n0 ≤ b) (ne : a1 ≠ b) (A_b : oA .long Z h0 b [(.long v0), (.long v1), (.long v2), (.long v3), (.long v4), (.long v5), (.long v6), (.long v7), (.long v8), (.long v9), (.long v10), (.long v11), (.long v12), (.long v13), (.long v14), (.long v15)]) (hp : v0.toInt ≤ v1.toInt ∧ v0.toInt ≤ v2.toInt ∧ v1.toInt ≤ v3.toInt ∧ v1.toInt ≤ v4.toInt) (hq1 : v0.toInt32 = p2) (hq2 : (XT.ushrL v0 (32 : Int32)).toInt32 = p1) :
    oC l Z n0 (⟨"com/example/bare_triage/baretriage/rank/TurnsTakePinLaw", "check", "(Lcom/example/bare_triage/baretriage/rank/Turns;II)Z"⟩ : MethodName) method_7_code 4 (some .boolean) ({ frames := 1, cells := 0, slots := 0, locals := 18 } : Room) 0 0 #[(.ref a1), (.int p1), (.int p2)] h0 (fun v h => v = some (.int (1 : Int32)) ∧ Keep h0 h [a1, b] ∧ Fld Z h a1 "com/example/bare_triage/baretriage/rank/Turns" "waiting" "[J" (.ref b) ∧ Fld Z h a1 "com/example/bare_triage/baretriage/rank/Turns" "count" "I" (.int (4 : Int32)) ∧ Fld Z h a1 "com/example/bare_triage/baretriage/rank/Turns" "round" "I" (.int ((XT.ushrL v0 (32 : Int32)).toInt32)) ∧ ∃ u0 u1 u2 u3 : Int64, oA .long Z h b [(.long u0), (.long u1), (.long u2), (.long u3), (.long v4), (.long v5), (.long v6), (.long v7), (.long v8), (.long v9), (.long v10), (.long v11), (.long v12), (.long v13), (.long v14), (.long v15)] ∧ (u0.toInt ≤ u1.toInt ∧ u0.toInt ≤ u2.toInt ∧ u1.toInt ≤ u3.toInt) ∧ ∀ t, own_c t v0 + own_c t u0 + own_c t u1 + own_c t u2 + own_c t u3 = own_c t v0 + own_c t v1 + own_c t v2 + own_c t v3 + own_c t v4) := by
  refine oC.of (L := #[.val (.ref a1), .val (.int p1), .val (.int p2), .unset]) pn10 Z0 (fun m => by first | (simp [entryFrame, mkF, argsToLocals, Value.category]; done) | rfl) ?_
  intro p e s m below meth c T H
  refine o_aloadN H rfl rfl d10_0 rfl ?_
  refine o_virtual H [] [] (rm11_5 l Z a0 hw a1 b q0 v0 v1 v2 v3 v4 v5 v6 v7 v8 v9 v10 v11 v12 v13 v14 v15 h0 n0 H.le E_a1 g_a1 F_waiting_a1 F_count_a1 F_round_a1 g_b ne A_b hp) E_a1 (w44 hw) (w45 hw) (o_nf (w47 hw)) (w47 hw) (w46 hw) (w15 hw) (w48 hw) (by decide) (lenOf pd11 rfl) rfl rfl (by decide) (Nat.le_of_ble_eq_true rfl) (by decide) (by decide) d10_1 rfl ?_
  intro T1 v1 h1 H1 q1
  obtain ⟨rfl, K1, Fw1, Fc1, Fr1, u1_0, u1_1, u1_2, u1_3, A1, hp1, ct1⟩ := q1
  have k2 := (Keep.refl h0 [a1, b]).trans K1 (allS (Or.inl (by simp)) (allS (Or.inl (by simp)) all0))
  have f3 := E_a1.keep K1
  show oG p e below s n0 _ _ _ (T1.setTop (mkF m 4 #[.val (.ref a1), .val (.int p1), .val (.int p2), .unset] [(.int (v0.toInt32))]))
  refine o_istoreN H1 (L' := #[.val (.ref a1), .val (.int p1), .val (.int p2), .val (.int (v0.toInt32))]) rfl d10_4 rfl ?_
  refine o_iloadN H1 rfl d10_5 rfl ?_
  refine o_iloadN H1 rfl d10_6 rfl ?_
  refine o_icmp_f H1 d10_7 (XT.ii_ne_f hq1) rfl ?_
  refine o_aloadN H1 rfl rfl d10_10 rfl ?_
  refine o_virtual H1 [] [] (rm12 l Z a0 hw a1 ((XT.ushrL v0 (32 : Int32)).toInt32) h1 n0 H1.le Fr1) f3 (w51 hw) (w52 hw) (o_nf (w54 hw)) (w54 hw) (w53 hw) (w15 hw) (w55 hw) (by decide) (lenOf pd12 rfl) rfl rfl (by decide) (Nat.le_of_ble_eq_true rfl) (by decide) (by decide) d10_11 rfl ?_
  intro T4 v4 h4 H4 q4
  obtain ⟨rfl, rfl⟩ := q4
  show oG p e below s n0 _ _ _ (T4.setTop (mkF m 14 #[.val (.ref a1), .val (.int p1), .val (.int p2), .val (.int (v0.toInt32))] [(.int ((XT.ushrL v0 (32 : Int32)).toInt32))]))
  refine o_iloadN H4 rfl d10_14 rfl ?_
  refine o_icmp_f H4 d10_15 (XT.ii_ne_f hq2) rfl ?_
  refine o_iconst H4 (1 : Int32) rfl d10_18 rfl ?_
  refine o_goto H4 d10_19 (pt := 23) (by decide) (by decide) ?_
  exact o_nreturn H4 .boolean rfl (by simp) d10_23 (by decide) (by decide) ⟨rfl, k2, Fw1, Fc1, Fr1, _, _, _, _, A1, hp1, ct1⟩
set_option maxRecDepth 65536 in
set_option maxHeartbeats 40000000 in
theorem rm11_4 (l : Launch) (Z : State) (a0 : Array Value) (hw : ∀ d ∈ tables_1, d.before a0 Z = true) (a1 : Addr) (b : Addr) (q0 : Int32) (v0 v1 v2 v3 v4 v5 v6 v7 v8 v9 v10 v11 v12 v13 v14 v15 : Int64) (h0 : Heap) (n0 : Nat) (Z0 : n0 ≤ h0.size) (E_a1 : Exa Z h0 a1 "com/example/bare_triage/baretriage/rank/Turns") (g_a1 : n0 ≤ a1) (F_waiting_a1 : Fld Z h0 a1 "com/example/bare_triage/baretriage/rank/Turns" "waiting" "[J" (.ref b)) (F_count_a1 : Fld Z h0 a1 "com/example/bare_triage/baretriage/rank/Turns" "count" "I" (.int (4 : Int32))) (F_round_a1 : Fld Z h0 a1 "com/example/bare_triage/baretriage/rank/Turns" "round" "I" (.int q0)) (g_b : n0 ≤ b) (ne : a1 ≠ b) (A_b : oA .long Z h0 b [(.long v0), (.long v1), (.long v2), (.long v3), (.long v4), (.long v5), (.long v6), (.long v7), (.long v8), (.long v9), (.long v10), (.long v11), (.long v12), (.long v13), (.long v14), (.long v15)]) (hp : v0.toInt ≤ v1.toInt ∧ v0.toInt ≤ v2.toInt ∧ v1.toInt ≤ v3.toInt) :
    oC l Z n0 (⟨"com/example/bare_triage/baretriage/rank/Turns", "take", "()I"⟩ : MethodName) prog_21_method_4_code 7 (some .int) ({ frames := 0, cells := 0, slots := 0, locals := 0 } : Room) 0 0 #[(.ref a1)] h0 (fun v h => v = some (.int (v0.toInt32)) ∧ Keep h0 h [a1, b] ∧ Fld Z h a1 "com/example/bare_triage/baretriage/rank/Turns" "waiting" "[J" (.ref b) ∧ Fld Z h a1 "com/example/bare_triage/baretriage/rank/Turns" "count" "I" (.int (3 : Int32)) ∧ Fld Z h a1 "com/example/bare_triage/baretriage/rank/Turns" "round" "I" (.int ((XT.ushrL v0 (32 : Int32)).toInt32)) ∧ ∃ u0 u1 u2 : Int64, oA .long Z h b [(.long u0), (.long u1), (.long u2), (.long v3), (.long v4), (.long v5), (.long v6), (.long v7), (.long v8), (.long v9), (.long v10), (.long v11), (.long v12), (.long v13), (.long v14), (.long v15)] ∧ (u0.toInt ≤ u1.toInt ∧ u0.toInt ≤ u2.toInt) ∧ ∀ t, own_c t v0 + own_c t u0 + own_c t u1 + own_c t u2 = own_c t v0 + own_c t v1 + own_c t v2 + own_c t v3) := by
  refine oC.of (L := #[.val (.ref a1), .unset, .unset, .unset, .unset, .unset, .unset]) pn11 Z0 (fun m => by first | (simp [entryFrame, mkF, argsToLocals, Value.category]; done) | rfl) ?_
  intro p e s m below meth c T H
  refine o_aloadN H rfl rfl d11_0 rfl ?_
  refine o_getF H (host := "") (Or.inl (w23 hw)) F_waiting_a1 d11_1 rfl ?_
  intro T1 H2
  refine o_iconst H2 (0 : Int32) rfl d11_4 rfl ?_
  refine o_laload H2 0 (.long v0) A_b (by decide) rfl d11_5 rfl ?_
  refine o_lstoreN H2 (L' := #[.val (.ref a1), .val (.long v0), .second, .unset, .unset, .unset, .unset]) rfl d11_6 rfl ?_
  refine o_aloadN H2 rfl rfl d11_7 rfl ?_
  refine o_getF H2 (host := "") (Or.inl (w23 hw)) F_waiting_a1 d11_8 rfl ?_
  intro T3 H4
  refine o_aloadN H4 rfl rfl d11_11 rfl ?_
  refine o_dup H4 rfl d11_12 rfl ?_
  refine o_getF H4 (host := "") (Or.inl (w30 hw)) F_count_a1 d11_13 rfl ?_
  intro T5 H6
  refine o_iconst H6 (1 : Int32) rfl d11_16 rfl ?_
  refine o_isub H6 d11_17 rfl ?_
  refine o_fold (3 : Int32) (by decide) ?_
  refine o_dup_x1 H6 rfl rfl d11_18 rfl ?_
  refine o_putF H6 (host := "") (Or.inl (w30 hw)) F_count_a1 E_a1 (Or.inl (w31 hw)) (w14 hw) (ty := .int) (by decide) rfl rfl g_a1 d11_19 rfl ?_
  intro T7 h7 H7 W7
  have k8 := (Keep.refl h0 [a1, b]).wr W7 (Or.inl (by simp))
  have f9 := E_a1.wr W7
  have f10 := F_waiting_a1.other W7 (Or.inr (slot_ne (Or.inl (w24 hw)) (Or.inl (w31 hw)) (by decide) (t := (.array .long)) (t' := .int) (by decide) (by decide)))
  have f11 := F_count_a1.same W7
  have f12 := F_round_a1.other W7 (Or.inr (slot_ne (Or.inl (w50 hw)) (Or.inl (w31 hw)) (by decide) (t := .int) (t' := .int) (by decide) (by decide)))
  have f13 := A_b.other W7 (Ne.symm ne)
  refine o_laload H7 3 (.long v3) f13 (by decide) rfl d11_22 rfl ?_
  refine o_lstoreN H7 (L' := #[.val (.ref a1), .val (.long v0), .second, .val (.long v3), .second, .unset, .unset]) rfl d11_23 rfl ?_
  refine o_iconst H7 (0 : Int32) rfl d11_24 rfl ?_
  refine o_istore H7 (L' := #[.val (.ref a1), .val (.long v0), .second, .val (.long v3), .second, .val (.int (0 : Int32)), .unset]) rfl d11_25 rfl ?_
  refine o_iconst H7 (2 : Int32) rfl d11_27 rfl ?_
  refine o_iload H7 rfl d11_28 rfl ?_
  refine o_imul H7 d11_30 rfl ?_
  refine o_fold (0 : Int32) (by decide) ?_
  refine o_iconst H7 (1 : Int32) rfl d11_31 rfl ?_
  refine o_iadd H7 d11_32 rfl ?_
  refine o_fold (1 : Int32) (by decide) ?_
  refine o_aloadN H7 rfl rfl d11_33 rfl ?_
  refine o_getF H7 (host := "") (Or.inl (w30 hw)) f11 d11_34 rfl ?_
  intro T14 H15
  refine o_icmp_f H15 d11_37 (by decide) rfl ?_
  refine o_iconst H15 (2 : Int32) rfl d11_40 rfl ?_
  refine o_iload H15 rfl d11_41 rfl ?_
  refine o_imul H15 d11_43 rfl ?_
  refine o_fold (0 : Int32) (by decide) ?_
  refine o_iconst H15 (1 : Int32) rfl d11_44 rfl ?_
  refine o_iadd H15 d11_45 rfl ?_
  refine o_fold (1 : Int32) (by decide) ?_
  refine o_istore H15 (L' := #[.val (.ref a1), .val (.long v0), .second, .val (.long v3), .second, .val (.int (0 : Int32)), .val (.int (1 : Int32))]) rfl d11_46 rfl ?_
  refine o_iload H15 rfl d11_48 rfl ?_
  refine o_iconst H15 (1 : Int32) rfl d11_50 rfl ?_
  refine o_iadd H15 d11_51 rfl ?_
  refine o_fold (2 : Int32) (by decide) ?_
  refine o_aloadN H15 rfl rfl d11_52 rfl ?_
  refine o_getF H15 (host := "") (Or.inl (w30 hw)) f11 d11_53 rfl ?_
  intro T16 H17
  refine o_icmp_f H17 d11_56 (by decide) rfl ?_
  refine o_aloadN H17 rfl rfl d11_59 rfl ?_
  refine o_getF H17 (host := "") (Or.inl (w23 hw)) f10 d11_60 rfl ?_
  intro T18 H19
  refine o_iload H19 rfl d11_63 rfl ?_
  refine o_iconst H19 (1 : Int32) rfl d11_65 rfl ?_
  refine o_iadd H19 d11_66 rfl ?_
  refine o_fold (2 : Int32) (by decide) ?_
  refine o_laload H19 2 (.long v2) f13 (by decide) rfl d11_67 rfl ?_
  refine o_aloadN H19 rfl rfl d11_68 rfl ?_
  refine o_getF H19 (host := "") (Or.inl (w23 hw)) f10 d11_69 rfl ?_
  intro T20 H21
  refine o_iload H21 rfl d11_72 rfl ?_
  refine o_laload H21 1 (.long v1) f13 (by decide) rfl d11_74 rfl ?_
  refine o_lcmp H21 d11_75 rfl ?_
  refine o_ifl_ge H21 d11_76 (pt := 82) (by decide) (by decide) rfl ?_ ?_
  · intro c76_22
    refine o_aloadN H21 rfl rfl d11_82 rfl ?_
    refine o_getF H21 (host := "") (Or.inl (w23 hw)) f10 d11_83 rfl ?_
    intro T23 H24
    refine o_iload H24 rfl d11_86 rfl ?_
    refine o_laload H24 1 (.long v1) f13 (by decide) rfl d11_88 rfl ?_
    refine o_lloadN H24 rfl d11_89 rfl ?_
    refine o_lcmp H24 d11_90 rfl ?_
    refine o_ifl_lt H24 d11_91 (pt := 97) (by decide) (by decide) rfl ?_ ?_
    · intro c91_25
      refine o_aloadN H24 rfl rfl d11_97 rfl ?_
      refine o_getF H24 (host := "") (Or.inl (w23 hw)) f10 d11_98 rfl ?_
      intro T26 H27
      refine o_iload H27 rfl d11_101 rfl ?_
      refine o_aloadN H27 rfl rfl d11_103 rfl ?_
      refine o_getF H27 (host := "") (Or.inl (w23 hw)) f10 d11_104 rfl ?_
      intro T28 H29
      refine o_iload H29 rfl d11_107 rfl ?_
      refine o_laload H29 1 (.long v1) f13 (by decide) rfl d11_109 rfl ?_
      refine o_lastore H29 0 f13 (by decide) (Nat.le_of_ble_eq_true rfl) g_b d11_110 rfl ?_
      intro T30 h30 H30 W30 A30
      have k31 := k8.wr W30 (Or.inl (by simp))
      have f32 := f9.wr W30
      have f33 := f10.other W30 (Or.inl ne)
      have f34 := f11.other W30 (Or.inl ne)
      have f35 := f12.other W30 (Or.inl ne)
      have f36 : oA .long Z h30 b [(.long v1), (.long v1), (.long v2), (.long v3), (.long v4), (.long v5), (.long v6), (.long v7), (.long v8), (.long v9), (.long v10), (.long v11), (.long v12), (.long v13), (.long v14), (.long v15)] := A30
      refine o_iload H30 rfl d11_111 rfl ?_
      refine o_istore H30 (L' := #[.val (.ref a1), .val (.long v0), .second, .val (.long v3), .second, .val (.int (1 : Int32)), .val (.int (1 : Int32))]) rfl d11_113 rfl ?_
      refine o_goto H30 d11_115 (pt := 27) (by decide) (by decide) ?_
      refine o_iconst H30 (2 : Int32) rfl d11_27 rfl ?_
      refine o_iload H30 rfl d11_28 rfl ?_
      refine o_imul H30 d11_30 rfl ?_
      refine o_fold (2 : Int32) (by decide) ?_
      refine o_iconst H30 (1 : Int32) rfl d11_31 rfl ?_
      refine o_iadd H30 d11_32 rfl ?_
      refine o_fold (3 : Int32) (by decide) ?_
      refine o_aloadN H30 rfl rfl d11_33 rfl ?_
      refine o_getF H30 (host := "") (Or.inl (w30 hw)) f34 d11_34 rfl ?_
      intro T37 H38
      refine o_icmp_t H38 d11_37 (by decide) (pt := 118) (by decide) (by decide) ?_
      refine o_aloadN H38 rfl rfl d11_118 rfl ?_
      refine o_getF H38 (host := "") (Or.inl (w23 hw)) f33 d11_119 rfl ?_
      intro T39 H40
      refine o_iload H40 rfl d11_122 rfl ?_
      refine o_lloadN H40 rfl d11_124 rfl ?_
      refine o_lastore H40 1 f36 (by decide) (Nat.le_of_ble_eq_true rfl) g_b d11_125 rfl ?_
      intro T41 h41 H41 W41 A41
      have k42 := k31.wr W41 (Or.inl (by simp))
      have f43 := f32.wr W41
      have f44 := f33.other W41 (Or.inl ne)
      have f45 := f34.other W41 (Or.inl ne)
      have f46 := f35.other W41 (Or.inl ne)
      have f47 : oA .long Z h41 b [(.long v1), (.long v3), (.long v2), (.long v3), (.long v4), (.long v5), (.long v6), (.long v7), (.long v8), (.long v9), (.long v10), (.long v11), (.long v12), (.long v13), (.long v14), (.long v15)] := A41
      refine o_aloadN H41 rfl rfl d11_126 rfl ?_
      refine o_lloadN H41 rfl d11_127 rfl ?_
      refine o_bipush H41 (32 : Int32) rfl d11_128 rfl ?_
      refine o_lushr H41 d11_130 rfl ?_
      refine o_l2i H41 d11_131 rfl ?_
      refine o_putF H41 (host := "") (Or.inl (w49 hw)) f46 f43 (Or.inl (w50 hw)) (w14 hw) (ty := .int) (by decide) rfl rfl g_a1 d11_132 rfl ?_
      intro T48 h48 H48 W48
      have k49 := k42.wr W48 (Or.inl (by simp))
      have f50 := f43.wr W48
      have f51 := f44.other W48 (Or.inr (slot_ne (Or.inl (w24 hw)) (Or.inl (w50 hw)) (by decide) (t := (.array .long)) (t' := .int) (by decide) (by decide)))
      have f52 := f45.other W48 (Or.inr (slot_ne (Or.inl (w31 hw)) (Or.inl (w50 hw)) (by decide) (t := .int) (t' := .int) (by decide) (by decide)))
      have f53 := f46.same W48
      have f54 := f47.other W48 (Ne.symm ne)
      refine o_lloadN H48 rfl d11_135 rfl ?_
      refine o_l2i H48 d11_136 rfl ?_
      rw [n_ltJ] at c76_22
      rw [n_ltJ] at c91_25
      have hh : v1.toInt ≤ v3.toInt ∧ v1.toInt ≤ v2.toInt := ⟨by omega, by omega⟩
      exact o_ireturn H48 rfl d11_137 (by decide) (by decide) ⟨rfl, k49, f51, f52, f53, _, _, _, f54, hh, fun t => by omega⟩
    · intro c91_25
      refine o_goto H24 d11_94 (pt := 118) (by decide) (by decide) ?_
      refine o_aloadN H24 rfl rfl d11_118 rfl ?_
      refine o_getF H24 (host := "") (Or.inl (w23 hw)) f10 d11_119 rfl ?_
      intro T55 H56
      refine o_iload H56 rfl d11_122 rfl ?_
      refine o_lloadN H56 rfl d11_124 rfl ?_
      refine o_lastore H56 0 f13 (by decide) (Nat.le_of_ble_eq_true rfl) g_b d11_125 rfl ?_
      intro T57 h57 H57 W57 A57
      have k58 := k8.wr W57 (Or.inl (by simp))
      have f59 := f9.wr W57
      have f60 := f10.other W57 (Or.inl ne)
      have f61 := f11.other W57 (Or.inl ne)
      have f62 := f12.other W57 (Or.inl ne)
      have f63 : oA .long Z h57 b [(.long v3), (.long v1), (.long v2), (.long v3), (.long v4), (.long v5), (.long v6), (.long v7), (.long v8), (.long v9), (.long v10), (.long v11), (.long v12), (.long v13), (.long v14), (.long v15)] := A57
      refine o_aloadN H57 rfl rfl d11_126 rfl ?_
      refine o_lloadN H57 rfl d11_127 rfl ?_
      refine o_bipush H57 (32 : Int32) rfl d11_128 rfl ?_
      refine o_lushr H57 d11_130 rfl ?_
      refine o_l2i H57 d11_131 rfl ?_
      refine o_putF H57 (host := "") (Or.inl (w49 hw)) f62 f59 (Or.inl (w50 hw)) (w14 hw) (ty := .int) (by decide) rfl rfl g_a1 d11_132 rfl ?_
      intro T64 h64 H64 W64
      have k65 := k58.wr W64 (Or.inl (by simp))
      have f66 := f59.wr W64
      have f67 := f60.other W64 (Or.inr (slot_ne (Or.inl (w24 hw)) (Or.inl (w50 hw)) (by decide) (t := (.array .long)) (t' := .int) (by decide) (by decide)))
      have f68 := f61.other W64 (Or.inr (slot_ne (Or.inl (w31 hw)) (Or.inl (w50 hw)) (by decide) (t := .int) (t' := .int) (by decide) (by decide)))
      have f69 := f62.same W64
      have f70 := f63.other W64 (Ne.symm ne)
      refine o_lloadN H64 rfl d11_135 rfl ?_
      refine o_l2i H64 d11_136 rfl ?_
      rw [n_ltJ] at c76_22
      rw [n_ltJ] at c91_25
      have hh : v3.toInt ≤ v1.toInt ∧ v3.toInt ≤ v2.toInt := ⟨by omega, by omega⟩
      exact o_ireturn H64 rfl d11_137 (by decide) (by decide) ⟨rfl, k65, f67, f68, f69, _, _, _, f70, hh, fun t => by omega⟩
  · intro c76_22
    refine o_iinc H21 (1 : Int32) (2 : Int32) rfl (by decide) rfl (L' := #[.val (.ref a1), .val (.long v0), .second, .val (.long v3), .second, .val (.int (0 : Int32)), .val (.int (2 : Int32))]) rfl d11_79 rfl ?_
    refine o_aloadN H21 rfl rfl d11_82 rfl ?_
    refine o_getF H21 (host := "") (Or.inl (w23 hw)) f10 d11_83 rfl ?_
    intro T71 H72
    refine o_iload H72 rfl d11_86 rfl ?_
    refine o_laload H72 2 (.long v2) f13 (by decide) rfl d11_88 rfl ?_
    refine o_lloadN H72 rfl d11_89 rfl ?_
    refine o_lcmp H72 d11_90 rfl ?_
    refine o_ifl_lt H72 d11_91 (pt := 97) (by decide) (by decide) rfl ?_ ?_
    · intro c91_73
      refine o_aloadN H72 rfl rfl d11_97 rfl ?_
      refine o_getF H72 (host := "") (Or.inl (w23 hw)) f10 d11_98 rfl ?_
      intro T74 H75
      refine o_iload H75 rfl d11_101 rfl ?_
      refine o_aloadN H75 rfl rfl d11_103 rfl ?_
      refine o_getF H75 (host := "") (Or.inl (w23 hw)) f10 d11_104 rfl ?_
      intro T76 H77
      refine o_iload H77 rfl d11_107 rfl ?_
      refine o_laload H77 2 (.long v2) f13 (by decide) rfl d11_109 rfl ?_
      refine o_lastore H77 0 f13 (by decide) (Nat.le_of_ble_eq_true rfl) g_b d11_110 rfl ?_
      intro T78 h78 H78 W78 A78
      have k79 := k8.wr W78 (Or.inl (by simp))
      have f80 := f9.wr W78
      have f81 := f10.other W78 (Or.inl ne)
      have f82 := f11.other W78 (Or.inl ne)
      have f83 := f12.other W78 (Or.inl ne)
      have f84 : oA .long Z h78 b [(.long v2), (.long v1), (.long v2), (.long v3), (.long v4), (.long v5), (.long v6), (.long v7), (.long v8), (.long v9), (.long v10), (.long v11), (.long v12), (.long v13), (.long v14), (.long v15)] := A78
      refine o_iload H78 rfl d11_111 rfl ?_
      refine o_istore H78 (L' := #[.val (.ref a1), .val (.long v0), .second, .val (.long v3), .second, .val (.int (2 : Int32)), .val (.int (2 : Int32))]) rfl d11_113 rfl ?_
      refine o_goto H78 d11_115 (pt := 27) (by decide) (by decide) ?_
      refine o_iconst H78 (2 : Int32) rfl d11_27 rfl ?_
      refine o_iload H78 rfl d11_28 rfl ?_
      refine o_imul H78 d11_30 rfl ?_
      refine o_fold (4 : Int32) (by decide) ?_
      refine o_iconst H78 (1 : Int32) rfl d11_31 rfl ?_
      refine o_iadd H78 d11_32 rfl ?_
      refine o_fold (5 : Int32) (by decide) ?_
      refine o_aloadN H78 rfl rfl d11_33 rfl ?_
      refine o_getF H78 (host := "") (Or.inl (w30 hw)) f82 d11_34 rfl ?_
      intro T85 H86
      refine o_icmp_t H86 d11_37 (by decide) (pt := 118) (by decide) (by decide) ?_
      refine o_aloadN H86 rfl rfl d11_118 rfl ?_
      refine o_getF H86 (host := "") (Or.inl (w23 hw)) f81 d11_119 rfl ?_
      intro T87 H88
      refine o_iload H88 rfl d11_122 rfl ?_
      refine o_lloadN H88 rfl d11_124 rfl ?_
      refine o_lastore H88 2 f84 (by decide) (Nat.le_of_ble_eq_true rfl) g_b d11_125 rfl ?_
      intro T89 h89 H89 W89 A89
      have k90 := k79.wr W89 (Or.inl (by simp))
      have f91 := f80.wr W89
      have f92 := f81.other W89 (Or.inl ne)
      have f93 := f82.other W89 (Or.inl ne)
      have f94 := f83.other W89 (Or.inl ne)
      have f95 : oA .long Z h89 b [(.long v2), (.long v1), (.long v3), (.long v3), (.long v4), (.long v5), (.long v6), (.long v7), (.long v8), (.long v9), (.long v10), (.long v11), (.long v12), (.long v13), (.long v14), (.long v15)] := A89
      refine o_aloadN H89 rfl rfl d11_126 rfl ?_
      refine o_lloadN H89 rfl d11_127 rfl ?_
      refine o_bipush H89 (32 : Int32) rfl d11_128 rfl ?_
      refine o_lushr H89 d11_130 rfl ?_
      refine o_l2i H89 d11_131 rfl ?_
      refine o_putF H89 (host := "") (Or.inl (w49 hw)) f94 f91 (Or.inl (w50 hw)) (w14 hw) (ty := .int) (by decide) rfl rfl g_a1 d11_132 rfl ?_
      intro T96 h96 H96 W96
      have k97 := k90.wr W96 (Or.inl (by simp))
      have f98 := f91.wr W96
      have f99 := f92.other W96 (Or.inr (slot_ne (Or.inl (w24 hw)) (Or.inl (w50 hw)) (by decide) (t := (.array .long)) (t' := .int) (by decide) (by decide)))
      have f100 := f93.other W96 (Or.inr (slot_ne (Or.inl (w31 hw)) (Or.inl (w50 hw)) (by decide) (t := .int) (t' := .int) (by decide) (by decide)))
      have f101 := f94.same W96
      have f102 := f95.other W96 (Ne.symm ne)
      refine o_lloadN H96 rfl d11_135 rfl ?_
      refine o_l2i H96 d11_136 rfl ?_
      rw [n_ltJ] at c76_22
      rw [n_ltJ] at c91_73
      have hh : v2.toInt ≤ v1.toInt ∧ v2.toInt ≤ v3.toInt := ⟨by omega, by omega⟩
      exact o_ireturn H96 rfl d11_137 (by decide) (by decide) ⟨rfl, k97, f99, f100, f101, _, _, _, f102, hh, fun t => by omega⟩
    · intro c91_73
      refine o_goto H72 d11_94 (pt := 118) (by decide) (by decide) ?_
      refine o_aloadN H72 rfl rfl d11_118 rfl ?_
      refine o_getF H72 (host := "") (Or.inl (w23 hw)) f10 d11_119 rfl ?_
      intro T103 H104
      refine o_iload H104 rfl d11_122 rfl ?_
      refine o_lloadN H104 rfl d11_124 rfl ?_
      refine o_lastore H104 0 f13 (by decide) (Nat.le_of_ble_eq_true rfl) g_b d11_125 rfl ?_
      intro T105 h105 H105 W105 A105
      have k106 := k8.wr W105 (Or.inl (by simp))
      have f107 := f9.wr W105
      have f108 := f10.other W105 (Or.inl ne)
      have f109 := f11.other W105 (Or.inl ne)
      have f110 := f12.other W105 (Or.inl ne)
      have f111 : oA .long Z h105 b [(.long v3), (.long v1), (.long v2), (.long v3), (.long v4), (.long v5), (.long v6), (.long v7), (.long v8), (.long v9), (.long v10), (.long v11), (.long v12), (.long v13), (.long v14), (.long v15)] := A105
      refine o_aloadN H105 rfl rfl d11_126 rfl ?_
      refine o_lloadN H105 rfl d11_127 rfl ?_
      refine o_bipush H105 (32 : Int32) rfl d11_128 rfl ?_
      refine o_lushr H105 d11_130 rfl ?_
      refine o_l2i H105 d11_131 rfl ?_
      refine o_putF H105 (host := "") (Or.inl (w49 hw)) f110 f107 (Or.inl (w50 hw)) (w14 hw) (ty := .int) (by decide) rfl rfl g_a1 d11_132 rfl ?_
      intro T112 h112 H112 W112
      have k113 := k106.wr W112 (Or.inl (by simp))
      have f114 := f107.wr W112
      have f115 := f108.other W112 (Or.inr (slot_ne (Or.inl (w24 hw)) (Or.inl (w50 hw)) (by decide) (t := (.array .long)) (t' := .int) (by decide) (by decide)))
      have f116 := f109.other W112 (Or.inr (slot_ne (Or.inl (w31 hw)) (Or.inl (w50 hw)) (by decide) (t := .int) (t' := .int) (by decide) (by decide)))
      have f117 := f110.same W112
      have f118 := f111.other W112 (Ne.symm ne)
      refine o_lloadN H112 rfl d11_135 rfl ?_
      refine o_l2i H112 d11_136 rfl ?_
      rw [n_ltJ] at c76_22
      rw [n_ltJ] at c91_73
      have hh : v3.toInt ≤ v1.toInt ∧ v3.toInt ≤ v2.toInt := ⟨by omega, by omega⟩
      exact o_ireturn H112 rfl d11_137 (by decide) (by decide) ⟨rfl, k113, f115, f116, f117, _, _, _, f118, hh, fun t => by omega⟩
set_option maxRecDepth 65536 in
set_option maxHeartbeats 40000000 in
theorem rm10_4 (l : Launch) (Z : State) (a0 : Array Value) (hw : ∀ d ∈ tables_1, d.before a0 Z = true) (a1 : Addr) (p1 : Int32) (p2 : Int32) (b : Addr) (q0 : Int32) (v0 v1 v2 v3 v4 v5 v6 v7 v8 v9 v10 v11 v12 v13 v14 v15 : Int64) (h0 : Heap) (n0 : Nat) (Z0 : n0 ≤ h0.size) (E_a1 : Exa Z h0 a1 "com/example/bare_triage/baretriage/rank/Turns") (g_a1 : n0 ≤ a1) (F_waiting_a1 : Fld Z h0 a1 "com/example/bare_triage/baretriage/rank/Turns" "waiting" "[J" (.ref b)) (F_count_a1 : Fld Z h0 a1 "com/example/bare_triage/baretriage/rank/Turns" "count" "I" (.int (4 : Int32))) (F_round_a1 : Fld Z h0 a1 "com/example/bare_triage/baretriage/rank/Turns" "round" "I" (.int q0)) (g_b : n0 ≤ b) (ne : a1 ≠ b) (A_b : oA .long Z h0 b [(.long v0), (.long v1), (.long v2), (.long v3), (.long v4), (.long v5), (.long v6), (.long v7), (.long v8), (.long v9), (.long v10), (.long v11), (.long v12), (.long v13), (.long v14), (.long v15)]) (hp : v0.toInt ≤ v1.toInt ∧ v0.toInt ≤ v2.toInt ∧ v1.toInt ≤ v3.toInt) (hq1 : v0.toInt32 = p2) (hq2 : (XT.ushrL v0 (32 : Int32)).toInt32 = p1) :
    oC l Z n0 (⟨"com/example/bare_triage/baretriage/rank/TurnsTakePinLaw", "check", "(Lcom/example/bare_triage/baretriage/rank/Turns;II)Z"⟩ : MethodName) method_7_code 4 (some .boolean) ({ frames := 1, cells := 0, slots := 0, locals := 18 } : Room) 0 0 #[(.ref a1), (.int p1), (.int p2)] h0 (fun v h => v = some (.int (1 : Int32)) ∧ Keep h0 h [a1, b] ∧ Fld Z h a1 "com/example/bare_triage/baretriage/rank/Turns" "waiting" "[J" (.ref b) ∧ Fld Z h a1 "com/example/bare_triage/baretriage/rank/Turns" "count" "I" (.int (3 : Int32)) ∧ Fld Z h a1 "com/example/bare_triage/baretriage/rank/Turns" "round" "I" (.int ((XT.ushrL v0 (32 : Int32)).toInt32)) ∧ ∃ u0 u1 u2 : Int64, oA .long Z h b [(.long u0), (.long u1), (.long u2), (.long v3), (.long v4), (.long v5), (.long v6), (.long v7), (.long v8), (.long v9), (.long v10), (.long v11), (.long v12), (.long v13), (.long v14), (.long v15)] ∧ (u0.toInt ≤ u1.toInt ∧ u0.toInt ≤ u2.toInt) ∧ ∀ t, own_c t v0 + own_c t u0 + own_c t u1 + own_c t u2 = own_c t v0 + own_c t v1 + own_c t v2 + own_c t v3) := by
  refine oC.of (L := #[.val (.ref a1), .val (.int p1), .val (.int p2), .unset]) pn10 Z0 (fun m => by first | (simp [entryFrame, mkF, argsToLocals, Value.category]; done) | rfl) ?_
  intro p e s m below meth c T H
  refine o_aloadN H rfl rfl d10_0 rfl ?_
  refine o_virtual H [] [] (rm11_4 l Z a0 hw a1 b q0 v0 v1 v2 v3 v4 v5 v6 v7 v8 v9 v10 v11 v12 v13 v14 v15 h0 n0 H.le E_a1 g_a1 F_waiting_a1 F_count_a1 F_round_a1 g_b ne A_b hp) E_a1 (w44 hw) (w45 hw) (o_nf (w47 hw)) (w47 hw) (w46 hw) (w15 hw) (w48 hw) (by decide) (lenOf pd11 rfl) rfl rfl (by decide) (Nat.le_of_ble_eq_true rfl) (by decide) (by decide) d10_1 rfl ?_
  intro T1 v1 h1 H1 q1
  obtain ⟨rfl, K1, Fw1, Fc1, Fr1, u1_0, u1_1, u1_2, A1, hp1, ct1⟩ := q1
  have k2 := (Keep.refl h0 [a1, b]).trans K1 (allS (Or.inl (by simp)) (allS (Or.inl (by simp)) all0))
  have f3 := E_a1.keep K1
  show oG p e below s n0 _ _ _ (T1.setTop (mkF m 4 #[.val (.ref a1), .val (.int p1), .val (.int p2), .unset] [(.int (v0.toInt32))]))
  refine o_istoreN H1 (L' := #[.val (.ref a1), .val (.int p1), .val (.int p2), .val (.int (v0.toInt32))]) rfl d10_4 rfl ?_
  refine o_iloadN H1 rfl d10_5 rfl ?_
  refine o_iloadN H1 rfl d10_6 rfl ?_
  refine o_icmp_f H1 d10_7 (XT.ii_ne_f hq1) rfl ?_
  refine o_aloadN H1 rfl rfl d10_10 rfl ?_
  refine o_virtual H1 [] [] (rm12 l Z a0 hw a1 ((XT.ushrL v0 (32 : Int32)).toInt32) h1 n0 H1.le Fr1) f3 (w51 hw) (w52 hw) (o_nf (w54 hw)) (w54 hw) (w53 hw) (w15 hw) (w55 hw) (by decide) (lenOf pd12 rfl) rfl rfl (by decide) (Nat.le_of_ble_eq_true rfl) (by decide) (by decide) d10_11 rfl ?_
  intro T4 v4 h4 H4 q4
  obtain ⟨rfl, rfl⟩ := q4
  show oG p e below s n0 _ _ _ (T4.setTop (mkF m 14 #[.val (.ref a1), .val (.int p1), .val (.int p2), .val (.int (v0.toInt32))] [(.int ((XT.ushrL v0 (32 : Int32)).toInt32))]))
  refine o_iloadN H4 rfl d10_14 rfl ?_
  refine o_icmp_f H4 d10_15 (XT.ii_ne_f hq2) rfl ?_
  refine o_iconst H4 (1 : Int32) rfl d10_18 rfl ?_
  refine o_goto H4 d10_19 (pt := 23) (by decide) (by decide) ?_
  exact o_nreturn H4 .boolean rfl (by simp) d10_23 (by decide) (by decide) ⟨rfl, k2, Fw1, Fc1, Fr1, _, _, _, A1, hp1, ct1⟩
set_option maxRecDepth 65536 in
set_option maxHeartbeats 40000000 in
theorem rm11_3 (l : Launch) (Z : State) (a0 : Array Value) (hw : ∀ d ∈ tables_1, d.before a0 Z = true) (a1 : Addr) (b : Addr) (q0 : Int32) (v0 v1 v2 v3 v4 v5 v6 v7 v8 v9 v10 v11 v12 v13 v14 v15 : Int64) (h0 : Heap) (n0 : Nat) (Z0 : n0 ≤ h0.size) (E_a1 : Exa Z h0 a1 "com/example/bare_triage/baretriage/rank/Turns") (g_a1 : n0 ≤ a1) (F_waiting_a1 : Fld Z h0 a1 "com/example/bare_triage/baretriage/rank/Turns" "waiting" "[J" (.ref b)) (F_count_a1 : Fld Z h0 a1 "com/example/bare_triage/baretriage/rank/Turns" "count" "I" (.int (3 : Int32))) (F_round_a1 : Fld Z h0 a1 "com/example/bare_triage/baretriage/rank/Turns" "round" "I" (.int q0)) (g_b : n0 ≤ b) (ne : a1 ≠ b) (A_b : oA .long Z h0 b [(.long v0), (.long v1), (.long v2), (.long v3), (.long v4), (.long v5), (.long v6), (.long v7), (.long v8), (.long v9), (.long v10), (.long v11), (.long v12), (.long v13), (.long v14), (.long v15)]) (hp : v0.toInt ≤ v1.toInt ∧ v0.toInt ≤ v2.toInt) :
    oC l Z n0 (⟨"com/example/bare_triage/baretriage/rank/Turns", "take", "()I"⟩ : MethodName) prog_21_method_4_code 7 (some .int) ({ frames := 0, cells := 0, slots := 0, locals := 0 } : Room) 0 0 #[(.ref a1)] h0 (fun v h => v = some (.int (v0.toInt32)) ∧ Keep h0 h [a1, b] ∧ Fld Z h a1 "com/example/bare_triage/baretriage/rank/Turns" "waiting" "[J" (.ref b) ∧ Fld Z h a1 "com/example/bare_triage/baretriage/rank/Turns" "count" "I" (.int (2 : Int32)) ∧ Fld Z h a1 "com/example/bare_triage/baretriage/rank/Turns" "round" "I" (.int ((XT.ushrL v0 (32 : Int32)).toInt32)) ∧ ∃ u0 u1 : Int64, oA .long Z h b [(.long u0), (.long u1), (.long v2), (.long v3), (.long v4), (.long v5), (.long v6), (.long v7), (.long v8), (.long v9), (.long v10), (.long v11), (.long v12), (.long v13), (.long v14), (.long v15)] ∧ (u0.toInt ≤ u1.toInt) ∧ ∀ t, own_c t v0 + own_c t u0 + own_c t u1 = own_c t v0 + own_c t v1 + own_c t v2) := by
  refine oC.of (L := #[.val (.ref a1), .unset, .unset, .unset, .unset, .unset, .unset]) pn11 Z0 (fun m => by first | (simp [entryFrame, mkF, argsToLocals, Value.category]; done) | rfl) ?_
  intro p e s m below meth c T H
  refine o_aloadN H rfl rfl d11_0 rfl ?_
  refine o_getF H (host := "") (Or.inl (w23 hw)) F_waiting_a1 d11_1 rfl ?_
  intro T1 H2
  refine o_iconst H2 (0 : Int32) rfl d11_4 rfl ?_
  refine o_laload H2 0 (.long v0) A_b (by decide) rfl d11_5 rfl ?_
  refine o_lstoreN H2 (L' := #[.val (.ref a1), .val (.long v0), .second, .unset, .unset, .unset, .unset]) rfl d11_6 rfl ?_
  refine o_aloadN H2 rfl rfl d11_7 rfl ?_
  refine o_getF H2 (host := "") (Or.inl (w23 hw)) F_waiting_a1 d11_8 rfl ?_
  intro T3 H4
  refine o_aloadN H4 rfl rfl d11_11 rfl ?_
  refine o_dup H4 rfl d11_12 rfl ?_
  refine o_getF H4 (host := "") (Or.inl (w30 hw)) F_count_a1 d11_13 rfl ?_
  intro T5 H6
  refine o_iconst H6 (1 : Int32) rfl d11_16 rfl ?_
  refine o_isub H6 d11_17 rfl ?_
  refine o_fold (2 : Int32) (by decide) ?_
  refine o_dup_x1 H6 rfl rfl d11_18 rfl ?_
  refine o_putF H6 (host := "") (Or.inl (w30 hw)) F_count_a1 E_a1 (Or.inl (w31 hw)) (w14 hw) (ty := .int) (by decide) rfl rfl g_a1 d11_19 rfl ?_
  intro T7 h7 H7 W7
  have k8 := (Keep.refl h0 [a1, b]).wr W7 (Or.inl (by simp))
  have f9 := E_a1.wr W7
  have f10 := F_waiting_a1.other W7 (Or.inr (slot_ne (Or.inl (w24 hw)) (Or.inl (w31 hw)) (by decide) (t := (.array .long)) (t' := .int) (by decide) (by decide)))
  have f11 := F_count_a1.same W7
  have f12 := F_round_a1.other W7 (Or.inr (slot_ne (Or.inl (w50 hw)) (Or.inl (w31 hw)) (by decide) (t := .int) (t' := .int) (by decide) (by decide)))
  have f13 := A_b.other W7 (Ne.symm ne)
  refine o_laload H7 2 (.long v2) f13 (by decide) rfl d11_22 rfl ?_
  refine o_lstoreN H7 (L' := #[.val (.ref a1), .val (.long v0), .second, .val (.long v2), .second, .unset, .unset]) rfl d11_23 rfl ?_
  refine o_iconst H7 (0 : Int32) rfl d11_24 rfl ?_
  refine o_istore H7 (L' := #[.val (.ref a1), .val (.long v0), .second, .val (.long v2), .second, .val (.int (0 : Int32)), .unset]) rfl d11_25 rfl ?_
  refine o_iconst H7 (2 : Int32) rfl d11_27 rfl ?_
  refine o_iload H7 rfl d11_28 rfl ?_
  refine o_imul H7 d11_30 rfl ?_
  refine o_fold (0 : Int32) (by decide) ?_
  refine o_iconst H7 (1 : Int32) rfl d11_31 rfl ?_
  refine o_iadd H7 d11_32 rfl ?_
  refine o_fold (1 : Int32) (by decide) ?_
  refine o_aloadN H7 rfl rfl d11_33 rfl ?_
  refine o_getF H7 (host := "") (Or.inl (w30 hw)) f11 d11_34 rfl ?_
  intro T14 H15
  refine o_icmp_f H15 d11_37 (by decide) rfl ?_
  refine o_iconst H15 (2 : Int32) rfl d11_40 rfl ?_
  refine o_iload H15 rfl d11_41 rfl ?_
  refine o_imul H15 d11_43 rfl ?_
  refine o_fold (0 : Int32) (by decide) ?_
  refine o_iconst H15 (1 : Int32) rfl d11_44 rfl ?_
  refine o_iadd H15 d11_45 rfl ?_
  refine o_fold (1 : Int32) (by decide) ?_
  refine o_istore H15 (L' := #[.val (.ref a1), .val (.long v0), .second, .val (.long v2), .second, .val (.int (0 : Int32)), .val (.int (1 : Int32))]) rfl d11_46 rfl ?_
  refine o_iload H15 rfl d11_48 rfl ?_
  refine o_iconst H15 (1 : Int32) rfl d11_50 rfl ?_
  refine o_iadd H15 d11_51 rfl ?_
  refine o_fold (2 : Int32) (by decide) ?_
  refine o_aloadN H15 rfl rfl d11_52 rfl ?_
  refine o_getF H15 (host := "") (Or.inl (w30 hw)) f11 d11_53 rfl ?_
  intro T16 H17
  refine o_icmp_t H17 d11_56 (by decide) (pt := 82) (by decide) (by decide) ?_
  refine o_aloadN H17 rfl rfl d11_82 rfl ?_
  refine o_getF H17 (host := "") (Or.inl (w23 hw)) f10 d11_83 rfl ?_
  intro T18 H19
  refine o_iload H19 rfl d11_86 rfl ?_
  refine o_laload H19 1 (.long v1) f13 (by decide) rfl d11_88 rfl ?_
  refine o_lloadN H19 rfl d11_89 rfl ?_
  refine o_lcmp H19 d11_90 rfl ?_
  refine o_ifl_lt H19 d11_91 (pt := 97) (by decide) (by decide) rfl ?_ ?_
  · intro c91_20
    refine o_aloadN H19 rfl rfl d11_97 rfl ?_
    refine o_getF H19 (host := "") (Or.inl (w23 hw)) f10 d11_98 rfl ?_
    intro T21 H22
    refine o_iload H22 rfl d11_101 rfl ?_
    refine o_aloadN H22 rfl rfl d11_103 rfl ?_
    refine o_getF H22 (host := "") (Or.inl (w23 hw)) f10 d11_104 rfl ?_
    intro T23 H24
    refine o_iload H24 rfl d11_107 rfl ?_
    refine o_laload H24 1 (.long v1) f13 (by decide) rfl d11_109 rfl ?_
    refine o_lastore H24 0 f13 (by decide) (Nat.le_of_ble_eq_true rfl) g_b d11_110 rfl ?_
    intro T25 h25 H25 W25 A25
    have k26 := k8.wr W25 (Or.inl (by simp))
    have f27 := f9.wr W25
    have f28 := f10.other W25 (Or.inl ne)
    have f29 := f11.other W25 (Or.inl ne)
    have f30 := f12.other W25 (Or.inl ne)
    have f31 : oA .long Z h25 b [(.long v1), (.long v1), (.long v2), (.long v3), (.long v4), (.long v5), (.long v6), (.long v7), (.long v8), (.long v9), (.long v10), (.long v11), (.long v12), (.long v13), (.long v14), (.long v15)] := A25
    refine o_iload H25 rfl d11_111 rfl ?_
    refine o_istore H25 (L' := #[.val (.ref a1), .val (.long v0), .second, .val (.long v2), .second, .val (.int (1 : Int32)), .val (.int (1 : Int32))]) rfl d11_113 rfl ?_
    refine o_goto H25 d11_115 (pt := 27) (by decide) (by decide) ?_
    refine o_iconst H25 (2 : Int32) rfl d11_27 rfl ?_
    refine o_iload H25 rfl d11_28 rfl ?_
    refine o_imul H25 d11_30 rfl ?_
    refine o_fold (2 : Int32) (by decide) ?_
    refine o_iconst H25 (1 : Int32) rfl d11_31 rfl ?_
    refine o_iadd H25 d11_32 rfl ?_
    refine o_fold (3 : Int32) (by decide) ?_
    refine o_aloadN H25 rfl rfl d11_33 rfl ?_
    refine o_getF H25 (host := "") (Or.inl (w30 hw)) f29 d11_34 rfl ?_
    intro T32 H33
    refine o_icmp_t H33 d11_37 (by decide) (pt := 118) (by decide) (by decide) ?_
    refine o_aloadN H33 rfl rfl d11_118 rfl ?_
    refine o_getF H33 (host := "") (Or.inl (w23 hw)) f28 d11_119 rfl ?_
    intro T34 H35
    refine o_iload H35 rfl d11_122 rfl ?_
    refine o_lloadN H35 rfl d11_124 rfl ?_
    refine o_lastore H35 1 f31 (by decide) (Nat.le_of_ble_eq_true rfl) g_b d11_125 rfl ?_
    intro T36 h36 H36 W36 A36
    have k37 := k26.wr W36 (Or.inl (by simp))
    have f38 := f27.wr W36
    have f39 := f28.other W36 (Or.inl ne)
    have f40 := f29.other W36 (Or.inl ne)
    have f41 := f30.other W36 (Or.inl ne)
    have f42 : oA .long Z h36 b [(.long v1), (.long v2), (.long v2), (.long v3), (.long v4), (.long v5), (.long v6), (.long v7), (.long v8), (.long v9), (.long v10), (.long v11), (.long v12), (.long v13), (.long v14), (.long v15)] := A36
    refine o_aloadN H36 rfl rfl d11_126 rfl ?_
    refine o_lloadN H36 rfl d11_127 rfl ?_
    refine o_bipush H36 (32 : Int32) rfl d11_128 rfl ?_
    refine o_lushr H36 d11_130 rfl ?_
    refine o_l2i H36 d11_131 rfl ?_
    refine o_putF H36 (host := "") (Or.inl (w49 hw)) f41 f38 (Or.inl (w50 hw)) (w14 hw) (ty := .int) (by decide) rfl rfl g_a1 d11_132 rfl ?_
    intro T43 h43 H43 W43
    have k44 := k37.wr W43 (Or.inl (by simp))
    have f45 := f38.wr W43
    have f46 := f39.other W43 (Or.inr (slot_ne (Or.inl (w24 hw)) (Or.inl (w50 hw)) (by decide) (t := (.array .long)) (t' := .int) (by decide) (by decide)))
    have f47 := f40.other W43 (Or.inr (slot_ne (Or.inl (w31 hw)) (Or.inl (w50 hw)) (by decide) (t := .int) (t' := .int) (by decide) (by decide)))
    have f48 := f41.same W43
    have f49 := f42.other W43 (Ne.symm ne)
    refine o_lloadN H43 rfl d11_135 rfl ?_
    refine o_l2i H43 d11_136 rfl ?_
    rw [n_ltJ] at c91_20
    have hh : v1.toInt ≤ v2.toInt := by omega
    exact o_ireturn H43 rfl d11_137 (by decide) (by decide) ⟨rfl, k44, f46, f47, f48, _, _, f49, hh, fun t => by omega⟩
  · intro c91_20
    refine o_goto H19 d11_94 (pt := 118) (by decide) (by decide) ?_
    refine o_aloadN H19 rfl rfl d11_118 rfl ?_
    refine o_getF H19 (host := "") (Or.inl (w23 hw)) f10 d11_119 rfl ?_
    intro T50 H51
    refine o_iload H51 rfl d11_122 rfl ?_
    refine o_lloadN H51 rfl d11_124 rfl ?_
    refine o_lastore H51 0 f13 (by decide) (Nat.le_of_ble_eq_true rfl) g_b d11_125 rfl ?_
    intro T52 h52 H52 W52 A52
    have k53 := k8.wr W52 (Or.inl (by simp))
    have f54 := f9.wr W52
    have f55 := f10.other W52 (Or.inl ne)
    have f56 := f11.other W52 (Or.inl ne)
    have f57 := f12.other W52 (Or.inl ne)
    have f58 : oA .long Z h52 b [(.long v2), (.long v1), (.long v2), (.long v3), (.long v4), (.long v5), (.long v6), (.long v7), (.long v8), (.long v9), (.long v10), (.long v11), (.long v12), (.long v13), (.long v14), (.long v15)] := A52
    refine o_aloadN H52 rfl rfl d11_126 rfl ?_
    refine o_lloadN H52 rfl d11_127 rfl ?_
    refine o_bipush H52 (32 : Int32) rfl d11_128 rfl ?_
    refine o_lushr H52 d11_130 rfl ?_
    refine o_l2i H52 d11_131 rfl ?_
    refine o_putF H52 (host := "") (Or.inl (w49 hw)) f57 f54 (Or.inl (w50 hw)) (w14 hw) (ty := .int) (by decide) rfl rfl g_a1 d11_132 rfl ?_
    intro T59 h59 H59 W59
    have k60 := k53.wr W59 (Or.inl (by simp))
    have f61 := f54.wr W59
    have f62 := f55.other W59 (Or.inr (slot_ne (Or.inl (w24 hw)) (Or.inl (w50 hw)) (by decide) (t := (.array .long)) (t' := .int) (by decide) (by decide)))
    have f63 := f56.other W59 (Or.inr (slot_ne (Or.inl (w31 hw)) (Or.inl (w50 hw)) (by decide) (t := .int) (t' := .int) (by decide) (by decide)))
    have f64 := f57.same W59
    have f65 := f58.other W59 (Ne.symm ne)
    refine o_lloadN H59 rfl d11_135 rfl ?_
    refine o_l2i H59 d11_136 rfl ?_
    rw [n_ltJ] at c91_20
    have hh : v2.toInt ≤ v1.toInt := by omega
    exact o_ireturn H59 rfl d11_137 (by decide) (by decide) ⟨rfl, k60, f62, f63, f64, _, _, f65, hh, fun t => by omega⟩
set_option maxRecDepth 65536 in
set_option maxHeartbeats 40000000 in
theorem rm10_3 (l : Launch) (Z : State) (a0 : Array Value) (hw : ∀ d ∈ tables_1, d.before a0 Z = true) (a1 : Addr) (p1 : Int32) (p2 : Int32) (b : Addr) (q0 : Int32) (v0 v1 v2 v3 v4 v5 v6 v7 v8 v9 v10 v11 v12 v13 v14 v15 : Int64) (h0 : Heap) (n0 : Nat) (Z0 : n0 ≤ h0.size) (E_a1 : Exa Z h0 a1 "com/example/bare_triage/baretriage/rank/Turns") (g_a1 : n0 ≤ a1) (F_waiting_a1 : Fld Z h0 a1 "com/example/bare_triage/baretriage/rank/Turns" "waiting" "[J" (.ref b)) (F_count_a1 : Fld Z h0 a1 "com/example/bare_triage/baretriage/rank/Turns" "count" "I" (.int (3 : Int32))) (F_round_a1 : Fld Z h0 a1 "com/example/bare_triage/baretriage/rank/Turns" "round" "I" (.int q0)) (g_b : n0 ≤ b) (ne : a1 ≠ b) (A_b : oA .long Z h0 b [(.long v0), (.long v1), (.long v2), (.long v3), (.long v4), (.long v5), (.long v6), (.long v7), (.long v8), (.long v9), (.long v10), (.long v11), (.long v12), (.long v13), (.long v14), (.long v15)]) (hp : v0.toInt ≤ v1.toInt ∧ v0.toInt ≤ v2.toInt) (hq1 : v0.toInt32 = p2) (hq2 : (XT.ushrL v0 (32 : Int32)).toInt32 = p1) :
    oC l Z n0 (⟨"com/example/bare_triage/baretriage/rank/TurnsTakePinLaw", "check", "(Lcom/example/bare_triage/baretriage/rank/Turns;II)Z"⟩ : MethodName) method_7_code 4 (some .boolean) ({ frames := 1, cells := 0, slots := 0, locals := 18 } : Room) 0 0 #[(.ref a1), (.int p1), (.int p2)] h0 (fun v h => v = some (.int (1 : Int32)) ∧ Keep h0 h [a1, b] ∧ Fld Z h a1 "com/example/bare_triage/baretriage/rank/Turns" "waiting" "[J" (.ref b) ∧ Fld Z h a1 "com/example/bare_triage/baretriage/rank/Turns" "count" "I" (.int (2 : Int32)) ∧ Fld Z h a1 "com/example/bare_triage/baretriage/rank/Turns" "round" "I" (.int ((XT.ushrL v0 (32 : Int32)).toInt32)) ∧ ∃ u0 u1 : Int64, oA .long Z h b [(.long u0), (.long u1), (.long v2), (.long v3), (.long v4), (.long v5), (.long v6), (.long v7), (.long v8), (.long v9), (.long v10), (.long v11), (.long v12), (.long v13), (.long v14), (.long v15)] ∧ (u0.toInt ≤ u1.toInt) ∧ ∀ t, own_c t v0 + own_c t u0 + own_c t u1 = own_c t v0 + own_c t v1 + own_c t v2) := by
  refine oC.of (L := #[.val (.ref a1), .val (.int p1), .val (.int p2), .unset]) pn10 Z0 (fun m => by first | (simp [entryFrame, mkF, argsToLocals, Value.category]; done) | rfl) ?_
  intro p e s m below meth c T H
  refine o_aloadN H rfl rfl d10_0 rfl ?_
  refine o_virtual H [] [] (rm11_3 l Z a0 hw a1 b q0 v0 v1 v2 v3 v4 v5 v6 v7 v8 v9 v10 v11 v12 v13 v14 v15 h0 n0 H.le E_a1 g_a1 F_waiting_a1 F_count_a1 F_round_a1 g_b ne A_b hp) E_a1 (w44 hw) (w45 hw) (o_nf (w47 hw)) (w47 hw) (w46 hw) (w15 hw) (w48 hw) (by decide) (lenOf pd11 rfl) rfl rfl (by decide) (Nat.le_of_ble_eq_true rfl) (by decide) (by decide) d10_1 rfl ?_
  intro T1 v1 h1 H1 q1
  obtain ⟨rfl, K1, Fw1, Fc1, Fr1, u1_0, u1_1, A1, hp1, ct1⟩ := q1
  have k2 := (Keep.refl h0 [a1, b]).trans K1 (allS (Or.inl (by simp)) (allS (Or.inl (by simp)) all0))
  have f3 := E_a1.keep K1
  show oG p e below s n0 _ _ _ (T1.setTop (mkF m 4 #[.val (.ref a1), .val (.int p1), .val (.int p2), .unset] [(.int (v0.toInt32))]))
  refine o_istoreN H1 (L' := #[.val (.ref a1), .val (.int p1), .val (.int p2), .val (.int (v0.toInt32))]) rfl d10_4 rfl ?_
  refine o_iloadN H1 rfl d10_5 rfl ?_
  refine o_iloadN H1 rfl d10_6 rfl ?_
  refine o_icmp_f H1 d10_7 (XT.ii_ne_f hq1) rfl ?_
  refine o_aloadN H1 rfl rfl d10_10 rfl ?_
  refine o_virtual H1 [] [] (rm12 l Z a0 hw a1 ((XT.ushrL v0 (32 : Int32)).toInt32) h1 n0 H1.le Fr1) f3 (w51 hw) (w52 hw) (o_nf (w54 hw)) (w54 hw) (w53 hw) (w15 hw) (w55 hw) (by decide) (lenOf pd12 rfl) rfl rfl (by decide) (Nat.le_of_ble_eq_true rfl) (by decide) (by decide) d10_11 rfl ?_
  intro T4 v4 h4 H4 q4
  obtain ⟨rfl, rfl⟩ := q4
  show oG p e below s n0 _ _ _ (T4.setTop (mkF m 14 #[.val (.ref a1), .val (.int p1), .val (.int p2), .val (.int (v0.toInt32))] [(.int ((XT.ushrL v0 (32 : Int32)).toInt32))]))
  refine o_iloadN H4 rfl d10_14 rfl ?_
  refine o_icmp_f H4 d10_15 (XT.ii_ne_f hq2) rfl ?_
  refine o_iconst H4 (1 : Int32) rfl d10_18 rfl ?_
  refine o_goto H4 d10_19 (pt := 23) (by decide) (by decide) ?_
  exact o_nreturn H4 .boolean rfl (by simp) d10_23 (by decide) (by decide) ⟨rfl, k2, Fw1, Fc1, Fr1, _, _, A1, hp1, ct1⟩
set_option maxRecDepth 65536 in
set_option maxHeartbeats 40000000 in
theorem rm11_2 (l : Launch) (Z : State) (a0 : Array Value) (hw : ∀ d ∈ tables_1, d.before a0 Z = true) (a1 : Addr) (b : Addr) (q0 : Int32) (v0 v1 v2 v3 v4 v5 v6 v7 v8 v9 v10 v11 v12 v13 v14 v15 : Int64) (h0 : Heap) (n0 : Nat) (Z0 : n0 ≤ h0.size) (E_a1 : Exa Z h0 a1 "com/example/bare_triage/baretriage/rank/Turns") (g_a1 : n0 ≤ a1) (F_waiting_a1 : Fld Z h0 a1 "com/example/bare_triage/baretriage/rank/Turns" "waiting" "[J" (.ref b)) (F_count_a1 : Fld Z h0 a1 "com/example/bare_triage/baretriage/rank/Turns" "count" "I" (.int (2 : Int32))) (F_round_a1 : Fld Z h0 a1 "com/example/bare_triage/baretriage/rank/Turns" "round" "I" (.int q0)) (g_b : n0 ≤ b) (ne : a1 ≠ b) (A_b : oA .long Z h0 b [(.long v0), (.long v1), (.long v2), (.long v3), (.long v4), (.long v5), (.long v6), (.long v7), (.long v8), (.long v9), (.long v10), (.long v11), (.long v12), (.long v13), (.long v14), (.long v15)]) (hp : v0.toInt ≤ v1.toInt) :
    oC l Z n0 (⟨"com/example/bare_triage/baretriage/rank/Turns", "take", "()I"⟩ : MethodName) prog_21_method_4_code 7 (some .int) ({ frames := 0, cells := 0, slots := 0, locals := 0 } : Room) 0 0 #[(.ref a1)] h0 (fun v h => v = some (.int (v0.toInt32)) ∧ Keep h0 h [a1, b] ∧ Fld Z h a1 "com/example/bare_triage/baretriage/rank/Turns" "waiting" "[J" (.ref b) ∧ Fld Z h a1 "com/example/bare_triage/baretriage/rank/Turns" "count" "I" (.int (1 : Int32)) ∧ Fld Z h a1 "com/example/bare_triage/baretriage/rank/Turns" "round" "I" (.int ((XT.ushrL v0 (32 : Int32)).toInt32)) ∧ ∃ u0 : Int64, oA .long Z h b [(.long u0), (.long v1), (.long v2), (.long v3), (.long v4), (.long v5), (.long v6), (.long v7), (.long v8), (.long v9), (.long v10), (.long v11), (.long v12), (.long v13), (.long v14), (.long v15)] ∧ (True) ∧ ∀ t, own_c t v0 + own_c t u0 = own_c t v0 + own_c t v1) := by
  refine oC.of (L := #[.val (.ref a1), .unset, .unset, .unset, .unset, .unset, .unset]) pn11 Z0 (fun m => by first | (simp [entryFrame, mkF, argsToLocals, Value.category]; done) | rfl) ?_
  intro p e s m below meth c T H
  refine o_aloadN H rfl rfl d11_0 rfl ?_
  refine o_getF H (host := "") (Or.inl (w23 hw)) F_waiting_a1 d11_1 rfl ?_
  intro T1 H2
  refine o_iconst H2 (0 : Int32) rfl d11_4 rfl ?_
  refine o_laload H2 0 (.long v0) A_b (by decide) rfl d11_5 rfl ?_
  refine o_lstoreN H2 (L' := #[.val (.ref a1), .val (.long v0), .second, .unset, .unset, .unset, .unset]) rfl d11_6 rfl ?_
  refine o_aloadN H2 rfl rfl d11_7 rfl ?_
  refine o_getF H2 (host := "") (Or.inl (w23 hw)) F_waiting_a1 d11_8 rfl ?_
  intro T3 H4
  refine o_aloadN H4 rfl rfl d11_11 rfl ?_
  refine o_dup H4 rfl d11_12 rfl ?_
  refine o_getF H4 (host := "") (Or.inl (w30 hw)) F_count_a1 d11_13 rfl ?_
  intro T5 H6
  refine o_iconst H6 (1 : Int32) rfl d11_16 rfl ?_
  refine o_isub H6 d11_17 rfl ?_
  refine o_fold (1 : Int32) (by decide) ?_
  refine o_dup_x1 H6 rfl rfl d11_18 rfl ?_
  refine o_putF H6 (host := "") (Or.inl (w30 hw)) F_count_a1 E_a1 (Or.inl (w31 hw)) (w14 hw) (ty := .int) (by decide) rfl rfl g_a1 d11_19 rfl ?_
  intro T7 h7 H7 W7
  have k8 := (Keep.refl h0 [a1, b]).wr W7 (Or.inl (by simp))
  have f9 := E_a1.wr W7
  have f10 := F_waiting_a1.other W7 (Or.inr (slot_ne (Or.inl (w24 hw)) (Or.inl (w31 hw)) (by decide) (t := (.array .long)) (t' := .int) (by decide) (by decide)))
  have f11 := F_count_a1.same W7
  have f12 := F_round_a1.other W7 (Or.inr (slot_ne (Or.inl (w50 hw)) (Or.inl (w31 hw)) (by decide) (t := .int) (t' := .int) (by decide) (by decide)))
  have f13 := A_b.other W7 (Ne.symm ne)
  refine o_laload H7 1 (.long v1) f13 (by decide) rfl d11_22 rfl ?_
  refine o_lstoreN H7 (L' := #[.val (.ref a1), .val (.long v0), .second, .val (.long v1), .second, .unset, .unset]) rfl d11_23 rfl ?_
  refine o_iconst H7 (0 : Int32) rfl d11_24 rfl ?_
  refine o_istore H7 (L' := #[.val (.ref a1), .val (.long v0), .second, .val (.long v1), .second, .val (.int (0 : Int32)), .unset]) rfl d11_25 rfl ?_
  refine o_iconst H7 (2 : Int32) rfl d11_27 rfl ?_
  refine o_iload H7 rfl d11_28 rfl ?_
  refine o_imul H7 d11_30 rfl ?_
  refine o_fold (0 : Int32) (by decide) ?_
  refine o_iconst H7 (1 : Int32) rfl d11_31 rfl ?_
  refine o_iadd H7 d11_32 rfl ?_
  refine o_fold (1 : Int32) (by decide) ?_
  refine o_aloadN H7 rfl rfl d11_33 rfl ?_
  refine o_getF H7 (host := "") (Or.inl (w30 hw)) f11 d11_34 rfl ?_
  intro T14 H15
  refine o_icmp_t H15 d11_37 (by decide) (pt := 118) (by decide) (by decide) ?_
  refine o_aloadN H15 rfl rfl d11_118 rfl ?_
  refine o_getF H15 (host := "") (Or.inl (w23 hw)) f10 d11_119 rfl ?_
  intro T16 H17
  refine o_iload H17 rfl d11_122 rfl ?_
  refine o_lloadN H17 rfl d11_124 rfl ?_
  refine o_lastore H17 0 f13 (by decide) (Nat.le_of_ble_eq_true rfl) g_b d11_125 rfl ?_
  intro T18 h18 H18 W18 A18
  have k19 := k8.wr W18 (Or.inl (by simp))
  have f20 := f9.wr W18
  have f21 := f10.other W18 (Or.inl ne)
  have f22 := f11.other W18 (Or.inl ne)
  have f23 := f12.other W18 (Or.inl ne)
  have f24 : oA .long Z h18 b [(.long v1), (.long v1), (.long v2), (.long v3), (.long v4), (.long v5), (.long v6), (.long v7), (.long v8), (.long v9), (.long v10), (.long v11), (.long v12), (.long v13), (.long v14), (.long v15)] := A18
  refine o_aloadN H18 rfl rfl d11_126 rfl ?_
  refine o_lloadN H18 rfl d11_127 rfl ?_
  refine o_bipush H18 (32 : Int32) rfl d11_128 rfl ?_
  refine o_lushr H18 d11_130 rfl ?_
  refine o_l2i H18 d11_131 rfl ?_
  refine o_putF H18 (host := "") (Or.inl (w49 hw)) f23 f20 (Or.inl (w50 hw)) (w14 hw) (ty := .int) (by decide) rfl rfl g_a1 d11_132 rfl ?_
  intro T25 h25 H25 W25
  have k26 := k19.wr W25 (Or.inl (by simp))
  have f27 := f20.wr W25
  have f28 := f21.other W25 (Or.inr (slot_ne (Or.inl (w24 hw)) (Or.inl (w50 hw)) (by decide) (t := (.array .long)) (t' := .int) (by decide) (by decide)))
  have f29 := f22.other W25 (Or.inr (slot_ne (Or.inl (w31 hw)) (Or.inl (w50 hw)) (by decide) (t := .int) (t' := .int) (by decide) (by decide)))
  have f30 := f23.same W25
  have f31 := f24.other W25 (Ne.symm ne)
  refine o_lloadN H25 rfl d11_135 rfl ?_
  refine o_l2i H25 d11_136 rfl ?_
  have hh : True := trivial
  exact o_ireturn H25 rfl d11_137 (by decide) (by decide) ⟨rfl, k26, f28, f29, f30, _, f31, hh, fun t => by omega⟩
set_option maxRecDepth 65536 in
set_option maxHeartbeats 40000000 in
theorem rm10_2 (l : Launch) (Z : State) (a0 : Array Value) (hw : ∀ d ∈ tables_1, d.before a0 Z = true) (a1 : Addr) (p1 : Int32) (p2 : Int32) (b : Addr) (q0 : Int32) (v0 v1 v2 v3 v4 v5 v6 v7 v8 v9 v10 v11 v12 v13 v14 v15 : Int64) (h0 : Heap) (n0 : Nat) (Z0 : n0 ≤ h0.size) (E_a1 : Exa Z h0 a1 "com/example/bare_triage/baretriage/rank/Turns") (g_a1 : n0 ≤ a1) (F_waiting_a1 : Fld Z h0 a1 "com/example/bare_triage/baretriage/rank/Turns" "waiting" "[J" (.ref b)) (F_count_a1 : Fld Z h0 a1 "com/example/bare_triage/baretriage/rank/Turns" "count" "I" (.int (2 : Int32))) (F_round_a1 : Fld Z h0 a1 "com/example/bare_triage/baretriage/rank/Turns" "round" "I" (.int q0)) (g_b : n0 ≤ b) (ne : a1 ≠ b) (A_b : oA .long Z h0 b [(.long v0), (.long v1), (.long v2), (.long v3), (.long v4), (.long v5), (.long v6), (.long v7), (.long v8), (.long v9), (.long v10), (.long v11), (.long v12), (.long v13), (.long v14), (.long v15)]) (hp : v0.toInt ≤ v1.toInt) (hq1 : v0.toInt32 = p2) (hq2 : (XT.ushrL v0 (32 : Int32)).toInt32 = p1) :
    oC l Z n0 (⟨"com/example/bare_triage/baretriage/rank/TurnsTakePinLaw", "check", "(Lcom/example/bare_triage/baretriage/rank/Turns;II)Z"⟩ : MethodName) method_7_code 4 (some .boolean) ({ frames := 1, cells := 0, slots := 0, locals := 18 } : Room) 0 0 #[(.ref a1), (.int p1), (.int p2)] h0 (fun v h => v = some (.int (1 : Int32)) ∧ Keep h0 h [a1, b] ∧ Fld Z h a1 "com/example/bare_triage/baretriage/rank/Turns" "waiting" "[J" (.ref b) ∧ Fld Z h a1 "com/example/bare_triage/baretriage/rank/Turns" "count" "I" (.int (1 : Int32)) ∧ Fld Z h a1 "com/example/bare_triage/baretriage/rank/Turns" "round" "I" (.int ((XT.ushrL v0 (32 : Int32)).toInt32)) ∧ ∃ u0 : Int64, oA .long Z h b [(.long u0), (.long v1), (.long v2), (.long v3), (.long v4), (.long v5), (.long v6), (.long v7), (.long v8), (.long v9), (.long v10), (.long v11), (.long v12), (.long v13), (.long v14), (.long v15)] ∧ (True) ∧ ∀ t, own_c t v0 + own_c t u0 = own_c t v0 + own_c t v1) := by
  refine oC.of (L := #[.val (.ref a1), .val (.int p1), .val (.int p2), .unset]) pn10 Z0 (fun m => by first | (simp [entryFrame, mkF, argsToLocals, Value.category]; done) | rfl) ?_
  intro p e s m below meth c T H
  refine o_aloadN H rfl rfl d10_0 rfl ?_
  refine o_virtual H [] [] (rm11_2 l Z a0 hw a1 b q0 v0 v1 v2 v3 v4 v5 v6 v7 v8 v9 v10 v11 v12 v13 v14 v15 h0 n0 H.le E_a1 g_a1 F_waiting_a1 F_count_a1 F_round_a1 g_b ne A_b hp) E_a1 (w44 hw) (w45 hw) (o_nf (w47 hw)) (w47 hw) (w46 hw) (w15 hw) (w48 hw) (by decide) (lenOf pd11 rfl) rfl rfl (by decide) (Nat.le_of_ble_eq_true rfl) (by decide) (by decide) d10_1 rfl ?_
  intro T1 v1 h1 H1 q1
  obtain ⟨rfl, K1, Fw1, Fc1, Fr1, u1_0, A1, hp1, ct1⟩ := q1
  have k2 := (Keep.refl h0 [a1, b]).trans K1 (allS (Or.inl (by simp)) (allS (Or.inl (by simp)) all0))
  have f3 := E_a1.keep K1
  show oG p e below s n0 _ _ _ (T1.setTop (mkF m 4 #[.val (.ref a1), .val (.int p1), .val (.int p2), .unset] [(.int (v0.toInt32))]))
  refine o_istoreN H1 (L' := #[.val (.ref a1), .val (.int p1), .val (.int p2), .val (.int (v0.toInt32))]) rfl d10_4 rfl ?_
  refine o_iloadN H1 rfl d10_5 rfl ?_
  refine o_iloadN H1 rfl d10_6 rfl ?_
  refine o_icmp_f H1 d10_7 (XT.ii_ne_f hq1) rfl ?_
  refine o_aloadN H1 rfl rfl d10_10 rfl ?_
  refine o_virtual H1 [] [] (rm12 l Z a0 hw a1 ((XT.ushrL v0 (32 : Int32)).toInt32) h1 n0 H1.le Fr1) f3 (w51 hw) (w52 hw) (o_nf (w54 hw)) (w54 hw) (w53 hw) (w15 hw) (w55 hw) (by decide) (lenOf pd12 rfl) rfl rfl (by decide) (Nat.le_of_ble_eq_true rfl) (by decide) (by decide) d10_11 rfl ?_
  intro T4 v4 h4 H4 q4
  obtain ⟨rfl, rfl⟩ := q4
  show oG p e below s n0 _ _ _ (T4.setTop (mkF m 14 #[.val (.ref a1), .val (.int p1), .val (.int p2), .val (.int (v0.toInt32))] [(.int ((XT.ushrL v0 (32 : Int32)).toInt32))]))
  refine o_iloadN H4 rfl d10_14 rfl ?_
  refine o_icmp_f H4 d10_15 (XT.ii_ne_f hq2) rfl ?_
  refine o_iconst H4 (1 : Int32) rfl d10_18 rfl ?_
  refine o_goto H4 d10_19 (pt := 23) (by decide) (by decide) ?_
  exact o_nreturn H4 .boolean rfl (by simp) d10_23 (by decide) (by decide) ⟨rfl, k2, Fw1, Fc1, Fr1, _, A1, hp1, ct1⟩
set_option maxRecDepth 65536 in
set_option maxHeartbeats 40000000 in
theorem rm11_1 (l : Launch) (Z : State) (a0 : Array Value) (hw : ∀ d ∈ tables_1, d.before a0 Z = true) (a1 : Addr) (b : Addr) (q0 : Int32) (v0 v1 v2 v3 v4 v5 v6 v7 v8 v9 v10 v11 v12 v13 v14 v15 : Int64) (h0 : Heap) (n0 : Nat) (Z0 : n0 ≤ h0.size) (E_a1 : Exa Z h0 a1 "com/example/bare_triage/baretriage/rank/Turns") (g_a1 : n0 ≤ a1) (F_waiting_a1 : Fld Z h0 a1 "com/example/bare_triage/baretriage/rank/Turns" "waiting" "[J" (.ref b)) (F_count_a1 : Fld Z h0 a1 "com/example/bare_triage/baretriage/rank/Turns" "count" "I" (.int (1 : Int32))) (F_round_a1 : Fld Z h0 a1 "com/example/bare_triage/baretriage/rank/Turns" "round" "I" (.int q0)) (g_b : n0 ≤ b) (ne : a1 ≠ b) (A_b : oA .long Z h0 b [(.long v0), (.long v1), (.long v2), (.long v3), (.long v4), (.long v5), (.long v6), (.long v7), (.long v8), (.long v9), (.long v10), (.long v11), (.long v12), (.long v13), (.long v14), (.long v15)]) :
    oC l Z n0 (⟨"com/example/bare_triage/baretriage/rank/Turns", "take", "()I"⟩ : MethodName) prog_21_method_4_code 7 (some .int) ({ frames := 0, cells := 0, slots := 0, locals := 0 } : Room) 0 0 #[(.ref a1)] h0 (fun v h => v = some (.int (v0.toInt32)) ∧ Keep h0 h [a1, b] ∧ Fld Z h a1 "com/example/bare_triage/baretriage/rank/Turns" "waiting" "[J" (.ref b) ∧ Fld Z h a1 "com/example/bare_triage/baretriage/rank/Turns" "count" "I" (.int (0 : Int32)) ∧ Fld Z h a1 "com/example/bare_triage/baretriage/rank/Turns" "round" "I" (.int ((XT.ushrL v0 (32 : Int32)).toInt32)) ∧ oA .long Z h b [(.long v0), (.long v1), (.long v2), (.long v3), (.long v4), (.long v5), (.long v6), (.long v7), (.long v8), (.long v9), (.long v10), (.long v11), (.long v12), (.long v13), (.long v14), (.long v15)] ∧ (True) ∧ ∀ t, own_c t v0 = own_c t v0) := by
  refine oC.of (L := #[.val (.ref a1), .unset, .unset, .unset, .unset, .unset, .unset]) pn11 Z0 (fun m => by first | (simp [entryFrame, mkF, argsToLocals, Value.category]; done) | rfl) ?_
  intro p e s m below meth c T H
  refine o_aloadN H rfl rfl d11_0 rfl ?_
  refine o_getF H (host := "") (Or.inl (w23 hw)) F_waiting_a1 d11_1 rfl ?_
  intro T1 H2
  refine o_iconst H2 (0 : Int32) rfl d11_4 rfl ?_
  refine o_laload H2 0 (.long v0) A_b (by decide) rfl d11_5 rfl ?_
  refine o_lstoreN H2 (L' := #[.val (.ref a1), .val (.long v0), .second, .unset, .unset, .unset, .unset]) rfl d11_6 rfl ?_
  refine o_aloadN H2 rfl rfl d11_7 rfl ?_
  refine o_getF H2 (host := "") (Or.inl (w23 hw)) F_waiting_a1 d11_8 rfl ?_
  intro T3 H4
  refine o_aloadN H4 rfl rfl d11_11 rfl ?_
  refine o_dup H4 rfl d11_12 rfl ?_
  refine o_getF H4 (host := "") (Or.inl (w30 hw)) F_count_a1 d11_13 rfl ?_
  intro T5 H6
  refine o_iconst H6 (1 : Int32) rfl d11_16 rfl ?_
  refine o_isub H6 d11_17 rfl ?_
  refine o_fold (0 : Int32) (by decide) ?_
  refine o_dup_x1 H6 rfl rfl d11_18 rfl ?_
  refine o_putF H6 (host := "") (Or.inl (w30 hw)) F_count_a1 E_a1 (Or.inl (w31 hw)) (w14 hw) (ty := .int) (by decide) rfl rfl g_a1 d11_19 rfl ?_
  intro T7 h7 H7 W7
  have k8 := (Keep.refl h0 [a1, b]).wr W7 (Or.inl (by simp))
  have f9 := E_a1.wr W7
  have f10 := F_waiting_a1.other W7 (Or.inr (slot_ne (Or.inl (w24 hw)) (Or.inl (w31 hw)) (by decide) (t := (.array .long)) (t' := .int) (by decide) (by decide)))
  have f11 := F_count_a1.same W7
  have f12 := F_round_a1.other W7 (Or.inr (slot_ne (Or.inl (w50 hw)) (Or.inl (w31 hw)) (by decide) (t := .int) (t' := .int) (by decide) (by decide)))
  have f13 := A_b.other W7 (Ne.symm ne)
  refine o_laload H7 0 (.long v0) f13 (by decide) rfl d11_22 rfl ?_
  refine o_lstoreN H7 (L' := #[.val (.ref a1), .val (.long v0), .second, .val (.long v0), .second, .unset, .unset]) rfl d11_23 rfl ?_
  refine o_iconst H7 (0 : Int32) rfl d11_24 rfl ?_
  refine o_istore H7 (L' := #[.val (.ref a1), .val (.long v0), .second, .val (.long v0), .second, .val (.int (0 : Int32)), .unset]) rfl d11_25 rfl ?_
  refine o_iconst H7 (2 : Int32) rfl d11_27 rfl ?_
  refine o_iload H7 rfl d11_28 rfl ?_
  refine o_imul H7 d11_30 rfl ?_
  refine o_fold (0 : Int32) (by decide) ?_
  refine o_iconst H7 (1 : Int32) rfl d11_31 rfl ?_
  refine o_iadd H7 d11_32 rfl ?_
  refine o_fold (1 : Int32) (by decide) ?_
  refine o_aloadN H7 rfl rfl d11_33 rfl ?_
  refine o_getF H7 (host := "") (Or.inl (w30 hw)) f11 d11_34 rfl ?_
  intro T14 H15
  refine o_icmp_t H15 d11_37 (by decide) (pt := 118) (by decide) (by decide) ?_
  refine o_aloadN H15 rfl rfl d11_118 rfl ?_
  refine o_getF H15 (host := "") (Or.inl (w23 hw)) f10 d11_119 rfl ?_
  intro T16 H17
  refine o_iload H17 rfl d11_122 rfl ?_
  refine o_lloadN H17 rfl d11_124 rfl ?_
  refine o_lastore H17 0 f13 (by decide) (Nat.le_of_ble_eq_true rfl) g_b d11_125 rfl ?_
  intro T18 h18 H18 W18 A18
  have k19 := k8.wr W18 (Or.inl (by simp))
  have f20 := f9.wr W18
  have f21 := f10.other W18 (Or.inl ne)
  have f22 := f11.other W18 (Or.inl ne)
  have f23 := f12.other W18 (Or.inl ne)
  have f24 : oA .long Z h18 b [(.long v0), (.long v1), (.long v2), (.long v3), (.long v4), (.long v5), (.long v6), (.long v7), (.long v8), (.long v9), (.long v10), (.long v11), (.long v12), (.long v13), (.long v14), (.long v15)] := A18
  refine o_aloadN H18 rfl rfl d11_126 rfl ?_
  refine o_lloadN H18 rfl d11_127 rfl ?_
  refine o_bipush H18 (32 : Int32) rfl d11_128 rfl ?_
  refine o_lushr H18 d11_130 rfl ?_
  refine o_l2i H18 d11_131 rfl ?_
  refine o_putF H18 (host := "") (Or.inl (w49 hw)) f23 f20 (Or.inl (w50 hw)) (w14 hw) (ty := .int) (by decide) rfl rfl g_a1 d11_132 rfl ?_
  intro T25 h25 H25 W25
  have k26 := k19.wr W25 (Or.inl (by simp))
  have f27 := f20.wr W25
  have f28 := f21.other W25 (Or.inr (slot_ne (Or.inl (w24 hw)) (Or.inl (w50 hw)) (by decide) (t := (.array .long)) (t' := .int) (by decide) (by decide)))
  have f29 := f22.other W25 (Or.inr (slot_ne (Or.inl (w31 hw)) (Or.inl (w50 hw)) (by decide) (t := .int) (t' := .int) (by decide) (by decide)))
  have f30 := f23.same W25
  have f31 := f24.other W25 (Ne.symm ne)
  refine o_lloadN H25 rfl d11_135 rfl ?_
  refine o_l2i H25 d11_136 rfl ?_
  have hh : True := trivial
  exact o_ireturn H25 rfl d11_137 (by decide) (by decide) ⟨rfl, k26, f28, f29, f30, f31, hh, fun t => by omega⟩
set_option maxRecDepth 65536 in
set_option maxHeartbeats 40000000 in
theorem rm10_1 (l : Launch) (Z : State) (a0 : Array Value) (hw : ∀ d ∈ tables_1, d.before a0 Z = true) (a1 : Addr) (p1 : Int32) (p2 : Int32) (b : Addr) (q0 : Int32) (v0 v1 v2 v3 v4 v5 v6 v7 v8 v9 v10 v11 v12 v13 v14 v15 : Int64) (h0 : Heap) (n0 : Nat) (Z0 : n0 ≤ h0.size) (E_a1 : Exa Z h0 a1 "com/example/bare_triage/baretriage/rank/Turns") (g_a1 : n0 ≤ a1) (F_waiting_a1 : Fld Z h0 a1 "com/example/bare_triage/baretriage/rank/Turns" "waiting" "[J" (.ref b)) (F_count_a1 : Fld Z h0 a1 "com/example/bare_triage/baretriage/rank/Turns" "count" "I" (.int (1 : Int32))) (F_round_a1 : Fld Z h0 a1 "com/example/bare_triage/baretriage/rank/Turns" "round" "I" (.int q0)) (g_b : n0 ≤ b) (ne : a1 ≠ b) (A_b : oA .long Z h0 b [(.long v0), (.long v1), (.long v2), (.long v3), (.long v4), (.long v5), (.long v6), (.long v7), (.long v8), (.long v9), (.long v10), (.long v11), (.long v12), (.long v13), (.long v14), (.long v15)]) (hq1 : v0.toInt32 = p2) (hq2 : (XT.ushrL v0 (32 : Int32)).toInt32 = p1) :
    oC l Z n0 (⟨"com/example/bare_triage/baretriage/rank/TurnsTakePinLaw", "check", "(Lcom/example/bare_triage/baretriage/rank/Turns;II)Z"⟩ : MethodName) method_7_code 4 (some .boolean) ({ frames := 1, cells := 0, slots := 0, locals := 18 } : Room) 0 0 #[(.ref a1), (.int p1), (.int p2)] h0 (fun v h => v = some (.int (1 : Int32)) ∧ Keep h0 h [a1, b] ∧ Fld Z h a1 "com/example/bare_triage/baretriage/rank/Turns" "waiting" "[J" (.ref b) ∧ Fld Z h a1 "com/example/bare_triage/baretriage/rank/Turns" "count" "I" (.int (0 : Int32)) ∧ Fld Z h a1 "com/example/bare_triage/baretriage/rank/Turns" "round" "I" (.int ((XT.ushrL v0 (32 : Int32)).toInt32)) ∧ oA .long Z h b [(.long v0), (.long v1), (.long v2), (.long v3), (.long v4), (.long v5), (.long v6), (.long v7), (.long v8), (.long v9), (.long v10), (.long v11), (.long v12), (.long v13), (.long v14), (.long v15)] ∧ (True) ∧ ∀ t, own_c t v0 = own_c t v0) := by
  refine oC.of (L := #[.val (.ref a1), .val (.int p1), .val (.int p2), .unset]) pn10 Z0 (fun m => by first | (simp [entryFrame, mkF, argsToLocals, Value.category]; done) | rfl) ?_
  intro p e s m below meth c T H
  refine o_aloadN H rfl rfl d10_0 rfl ?_
  refine o_virtual H [] [] (rm11_1 l Z a0 hw a1 b q0 v0 v1 v2 v3 v4 v5 v6 v7 v8 v9 v10 v11 v12 v13 v14 v15 h0 n0 H.le E_a1 g_a1 F_waiting_a1 F_count_a1 F_round_a1 g_b ne A_b ) E_a1 (w44 hw) (w45 hw) (o_nf (w47 hw)) (w47 hw) (w46 hw) (w15 hw) (w48 hw) (by decide) (lenOf pd11 rfl) rfl rfl (by decide) (Nat.le_of_ble_eq_true rfl) (by decide) (by decide) d10_1 rfl ?_
  intro T1 v1 h1 H1 q1
  obtain ⟨rfl, K1, Fw1, Fc1, Fr1, A1, hp1, ct1⟩ := q1
  have k2 := (Keep.refl h0 [a1, b]).trans K1 (allS (Or.inl (by simp)) (allS (Or.inl (by simp)) all0))
  have f3 := E_a1.keep K1
  show oG p e below s n0 _ _ _ (T1.setTop (mkF m 4 #[.val (.ref a1), .val (.int p1), .val (.int p2), .unset] [(.int (v0.toInt32))]))
  refine o_istoreN H1 (L' := #[.val (.ref a1), .val (.int p1), .val (.int p2), .val (.int (v0.toInt32))]) rfl d10_4 rfl ?_
  refine o_iloadN H1 rfl d10_5 rfl ?_
  refine o_iloadN H1 rfl d10_6 rfl ?_
  refine o_icmp_f H1 d10_7 (XT.ii_ne_f hq1) rfl ?_
  refine o_aloadN H1 rfl rfl d10_10 rfl ?_
  refine o_virtual H1 [] [] (rm12 l Z a0 hw a1 ((XT.ushrL v0 (32 : Int32)).toInt32) h1 n0 H1.le Fr1) f3 (w51 hw) (w52 hw) (o_nf (w54 hw)) (w54 hw) (w53 hw) (w15 hw) (w55 hw) (by decide) (lenOf pd12 rfl) rfl rfl (by decide) (Nat.le_of_ble_eq_true rfl) (by decide) (by decide) d10_11 rfl ?_
  intro T4 v4 h4 H4 q4
  obtain ⟨rfl, rfl⟩ := q4
  show oG p e below s n0 _ _ _ (T4.setTop (mkF m 14 #[.val (.ref a1), .val (.int p1), .val (.int p2), .val (.int (v0.toInt32))] [(.int ((XT.ushrL v0 (32 : Int32)).toInt32))]))
  refine o_iloadN H4 rfl d10_14 rfl ?_
  refine o_icmp_f H4 d10_15 (XT.ii_ne_f hq2) rfl ?_
  refine o_iconst H4 (1 : Int32) rfl d10_18 rfl ?_
  refine o_goto H4 d10_19 (pt := 23) (by decide) (by decide) ?_
  exact o_nreturn H4 .boolean rfl (by simp) d10_23 (by decide) (by decide) ⟨rfl, k2, Fw1, Fc1, Fr1, A1, hp1, ct1⟩
theorem d8_0 : decode method_4_code 0 = .ok (.aload_n 0, 1) := by decide +kernel
theorem d8_1 : decode method_4_code 1 = .ok (.iload_n 2, 1) := by decide +kernel
theorem d8_2 : decode method_4_code 2 = .ok (.iaload, 1) := by decide +kernel
theorem d8_3 : decode method_4_code 3 = .ok (.aload_n 0, 1) := by decide +kernel
theorem d8_4 : decode method_4_code 4 = .ok (.iload_n 3, 1) := by decide +kernel
theorem d8_5 : decode method_4_code 5 = .ok (.iaload, 1) := by decide +kernel
theorem d8_6 : decode method_4_code 6 = .ok (.if_icmp .gt 21, 3) := by decide +kernel
theorem d8_9 : decode method_4_code 9 = .ok (.aload_n 0, 1) := by decide +kernel
theorem d8_10 : decode method_4_code 10 = .ok (.iload_n 2, 1) := by decide +kernel
theorem d8_11 : decode method_4_code 11 = .ok (.iaload, 1) := by decide +kernel
theorem d8_12 : decode method_4_code 12 = .ok (.aload_n 0, 1) := by decide +kernel
theorem d8_13 : decode method_4_code 13 = .ok (.iload_n 3, 1) := by decide +kernel
theorem d8_14 : decode method_4_code 14 = .ok (.iaload, 1) := by decide +kernel
theorem d8_15 : decode method_4_code 15 = .ok (.if_icmp .ne 44, 3) := by decide +kernel
theorem d8_18 : decode method_4_code 18 = .ok (.aload_n 1, 1) := by decide +kernel
theorem d8_19 : decode method_4_code 19 = .ok (.iload_n 2, 1) := by decide +kernel
theorem d8_20 : decode method_4_code 20 = .ok (.iaload, 1) := by decide +kernel
theorem d8_21 : decode method_4_code 21 = .ok (.aload_n 1, 1) := by decide +kernel
theorem d8_22 : decode method_4_code 22 = .ok (.iload_n 3, 1) := by decide +kernel
theorem d8_23 : decode method_4_code 23 = .ok (.iaload, 1) := by decide +kernel
theorem d8_24 : decode method_4_code 24 = .ok (.if_icmp .le 35, 3) := by decide +kernel
theorem d8_27 : decode method_4_code 27 = .ok (.aload_n 0, 1) := by decide +kernel
theorem d8_28 : decode method_4_code 28 = .ok (.iload_n 2, 1) := by decide +kernel
theorem d8_29 : decode method_4_code 29 = .ok (.iaload, 1) := by decide +kernel
theorem d8_30 : decode method_4_code 30 = .ok (.istore 4, 2) := by decide +kernel
theorem d8_32 : decode method_4_code 32 = .ok (.aload_n 0, 1) := by decide +kernel
theorem d8_33 : decode method_4_code 33 = .ok (.iload_n 2, 1) := by decide +kernel
theorem d8_34 : decode method_4_code 34 = .ok (.aload_n 0, 1) := by decide +kernel
theorem d8_35 : decode method_4_code 35 = .ok (.iload_n 3, 1) := by decide +kernel
theorem d8_36 : decode method_4_code 36 = .ok (.iaload, 1) := by decide +kernel
theorem d8_37 : decode method_4_code 37 = .ok (.iastore, 1) := by decide +kernel
theorem d8_38 : decode method_4_code 38 = .ok (.aload_n 0, 1) := by decide +kernel
theorem d8_39 : decode method_4_code 39 = .ok (.iload_n 3, 1) := by decide +kernel
theorem d8_40 : decode method_4_code 40 = .ok (.iload 4, 2) := by decide +kernel
theorem d8_42 : decode method_4_code 42 = .ok (.iastore, 1) := by decide +kernel
theorem d8_43 : decode method_4_code 43 = .ok (.aload_n 1, 1) := by decide +kernel
theorem d8_44 : decode method_4_code 44 = .ok (.iload_n 2, 1) := by decide +kernel
theorem d8_45 : decode method_4_code 45 = .ok (.iaload, 1) := by decide +kernel
theorem d8_46 : decode method_4_code 46 = .ok (.istore 5, 2) := by decide +kernel
theorem d8_48 : decode method_4_code 48 = .ok (.aload_n 1, 1) := by decide +kernel
theorem d8_49 : decode method_4_code 49 = .ok (.iload_n 2, 1) := by decide +kernel
theorem d8_50 : decode method_4_code 50 = .ok (.aload_n 1, 1) := by decide +kernel
theorem d8_51 : decode method_4_code 51 = .ok (.iload_n 3, 1) := by decide +kernel
theorem d8_52 : decode method_4_code 52 = .ok (.iaload, 1) := by decide +kernel
theorem d8_53 : decode method_4_code 53 = .ok (.iastore, 1) := by decide +kernel
theorem d8_54 : decode method_4_code 54 = .ok (.aload_n 1, 1) := by decide +kernel
theorem d8_55 : decode method_4_code 55 = .ok (.iload_n 3, 1) := by decide +kernel
theorem d8_56 : decode method_4_code 56 = .ok (.iload 5, 2) := by decide +kernel
theorem d8_58 : decode method_4_code 58 = .ok (.iastore, 1) := by decide +kernel
theorem d8_59 : decode method_4_code 59 = .ok (.return_, 1) := by decide +kernel
theorem pn8 : plainFor (⟨"com/example/bare_triage/baretriage/rank/TurnsTakePinLaw", "cx", "([I[III)V"⟩ : MethodName) = true := plainFor_of_name (by first | (simp [plainName, overriddenIn]; done) | decide +kernel)
theorem pd8 : parseMethodDescriptor "([I[III)V" = some ⟨[(.array .int), (.array .int), .int, .int], none⟩ := by decide +kernel
set_option maxRecDepth 65536 in
set_option maxHeartbeats 40000000 in
theorem rm8_01 (l : Launch) (Z : State) (a0 : Array Value) (hw : ∀ d ∈ tables_1, d.before a0 Z = true) (a1 : Addr) (a2 : Addr) (r0 r1 r2 r3 r4 r5 q0 q1 q2 q3 q4 q5 : Int32) (h0 : Heap) (n0 : Nat) (Z0 : n0 ≤ h0.size) (A_a1 : oA .int Z h0 a1 [(.int r0), (.int r1), (.int r2), (.int r3), (.int r4), (.int r5)]) (A_a2 : oA .int Z h0 a2 [(.int q0), (.int q1), (.int q2), (.int q3), (.int q4), (.int q5)]) (ne : a1 ≠ a2) (g_a1 : n0 ≤ a1) (g_a2 : n0 ≤ a2) (hi1 : own_in r0 q0) (hi2 : own_in r1 q1) :
    oC l Z n0 (⟨"com/example/bare_triage/baretriage/rank/TurnsTakePinLaw", "cx", "([I[III)V"⟩ : MethodName) method_4_code 6 none ({ frames := 0, cells := 0, slots := 0, locals := 0 } : Room) 0 0 #[(.ref a1), (.ref a2), (.int (0 : Int32)), (.int (1 : Int32))] h0 (fun v h => v = none ∧ Keep h0 h [a1, a2] ∧ ∃ ri rj qi qj : Int32, oA .int Z h a1 [(.int ri), (.int rj), (.int r2), (.int r3), (.int r4), (.int r5)] ∧ oA .int Z h a2 [(.int qi), (.int qj), (.int q2), (.int q3), (.int q4), (.int q5)] ∧ own_in ri qi ∧ own_in rj qj ∧ own_K ri qi = min (own_K r0 q0) (own_K r1 q1) ∧ own_K rj qj = max (own_K r0 q0) (own_K r1 q1)) := by
  refine oC.of (L := #[.val (.ref a1), .val (.ref a2), .val (.int (0 : Int32)), .val (.int (1 : Int32)), .unset, .unset]) pn8 Z0 (fun m => by first | (simp [entryFrame, mkF, argsToLocals, Value.category]; done) | rfl) ?_
  intro p e s m below meth c T H
  refine o_aloadN H rfl rfl d8_0 rfl ?_
  refine o_iloadN H rfl d8_1 rfl ?_
  refine o_iaload H 0 (.int r0) A_a1 (by decide) rfl d8_2 rfl ?_
  refine o_aloadN H rfl rfl d8_3 rfl ?_
  refine o_iloadN H rfl d8_4 rfl ?_
  refine o_iaload H 1 (.int r1) A_a1 (by decide) rfl d8_5 rfl ?_
  refine o_icmp_gt H d8_6 (pt := 27) (by decide) (by decide) rfl ?_ ?_
  · intro c6_1
    refine o_aloadN H rfl rfl d8_27 rfl ?_
    refine o_iloadN H rfl d8_28 rfl ?_
    refine o_iaload H 0 (.int r0) A_a1 (by decide) rfl d8_29 rfl ?_
    refine o_istore H (L' := #[.val (.ref a1), .val (.ref a2), .val (.int (0 : Int32)), .val (.int (1 : Int32)), .val (.int r0), .unset]) rfl d8_30 rfl ?_
    refine o_aloadN H rfl rfl d8_32 rfl ?_
    refine o_iloadN H rfl d8_33 rfl ?_
    refine o_aloadN H rfl rfl d8_34 rfl ?_
    refine o_iloadN H rfl d8_35 rfl ?_
    refine o_iaload H 1 (.int r1) A_a1 (by decide) rfl d8_36 rfl ?_
    refine o_iastore H 0 A_a1 (by decide) (Nat.le_of_ble_eq_true rfl) g_a1 d8_37 rfl ?_
    intro T2 h2 H2 W2 A2
    have k3 := (Keep.refl h0 [a1, a2]).wr W2 (Or.inl (by simp))
    have f4 := A_a2.other W2 (Ne.symm ne)
    have f5 : oA .int Z h2 a1 [(.int r1), (.int r1), (.int r2), (.int r3), (.int r4), (.int r5)] := A2
    refine o_aloadN H2 rfl rfl d8_38 rfl ?_
    refine o_iloadN H2 rfl d8_39 rfl ?_
    refine o_iload H2 rfl d8_40 rfl ?_
    refine o_iastore H2 1 f5 (by decide) (Nat.le_of_ble_eq_true rfl) g_a1 d8_42 rfl ?_
    intro T6 h6 H6 W6 A6
    have k7 := k3.wr W6 (Or.inl (by simp))
    have f8 := f4.other W6 (Ne.symm ne)
    have f9 : oA .int Z h6 a1 [(.int r1), (.int r0), (.int r2), (.int r3), (.int r4), (.int r5)] := A6
    refine o_aloadN H6 rfl rfl d8_43 rfl ?_
    refine o_iloadN H6 rfl d8_44 rfl ?_
    refine o_iaload H6 0 (.int q0) f8 (by decide) rfl d8_45 rfl ?_
    refine o_istore H6 (L' := #[.val (.ref a1), .val (.ref a2), .val (.int (0 : Int32)), .val (.int (1 : Int32)), .val (.int r0), .val (.int q0)]) rfl d8_46 rfl ?_
    refine o_aloadN H6 rfl rfl d8_48 rfl ?_
    refine o_iloadN H6 rfl d8_49 rfl ?_
    refine o_aloadN H6 rfl rfl d8_50 rfl ?_
    refine o_iloadN H6 rfl d8_51 rfl ?_
    refine o_iaload H6 1 (.int q1) f8 (by decide) rfl d8_52 rfl ?_
    refine o_iastore H6 0 f8 (by decide) (Nat.le_of_ble_eq_true rfl) g_a2 d8_53 rfl ?_
    intro T10 h10 H10 W10 A10
    have k11 := k7.wr W10 (Or.inl (by simp))
    have f12 := f9.other W10 ne
    have f13 : oA .int Z h10 a2 [(.int q1), (.int q1), (.int q2), (.int q3), (.int q4), (.int q5)] := A10
    refine o_aloadN H10 rfl rfl d8_54 rfl ?_
    refine o_iloadN H10 rfl d8_55 rfl ?_
    refine o_iload H10 rfl d8_56 rfl ?_
    refine o_iastore H10 1 f13 (by decide) (Nat.le_of_ble_eq_true rfl) g_a2 d8_58 rfl ?_
    intro T14 h14 H14 W14 A14
    have k15 := k11.wr W14 (Or.inl (by simp))
    have f16 := f12.other W14 ne
    have f17 : oA .int Z h14 a2 [(.int q1), (.int q0), (.int q2), (.int q3), (.int q4), (.int q5)] := A14
    have s1 := Int32.toInt_lt q0
    have s2 := Int32.toInt_lt q1
    obtain ⟨s3, s4⟩ := hi1
    obtain ⟨s5, s6⟩ := hi2
    rw [n_lt] at c6_1
    exact o_return H14 rfl d8_59 (by decide) (by decide) ⟨rfl, k15, _, _, _, _, f16, f17, ⟨s5, s6⟩, ⟨s3, s4⟩, by unfold own_K; omega, by unfold own_K; omega⟩
  · intro c6_1
    refine o_aloadN H rfl rfl d8_9 rfl ?_
    refine o_iloadN H rfl d8_10 rfl ?_
    refine o_iaload H 0 (.int r0) A_a1 (by decide) rfl d8_11 rfl ?_
    refine o_aloadN H rfl rfl d8_12 rfl ?_
    refine o_iloadN H rfl d8_13 rfl ?_
    refine o_iaload H 1 (.int r1) A_a1 (by decide) rfl d8_14 rfl ?_
    refine o_icmp_ne H d8_15 (pt := 59) (by decide) (by decide) rfl ?_ ?_
    · intro c15_18
      have s1 := Int32.toInt_lt q0
      have s2 := Int32.toInt_lt q1
      obtain ⟨s3, s4⟩ := hi1
      obtain ⟨s5, s6⟩ := hi2
      rw [n_lt] at c6_1
      rw [n_eq] at c15_18
      exact o_return H rfl d8_59 (by decide) (by decide) ⟨rfl, (Keep.refl h0 [a1, a2]), _, _, _, _, A_a1, A_a2, ⟨s3, s4⟩, ⟨s5, s6⟩, by unfold own_K; omega, by unfold own_K; omega⟩
    · intro c15_18
      refine o_aloadN H rfl rfl d8_18 rfl ?_
      refine o_iloadN H rfl d8_19 rfl ?_
      refine o_iaload H 0 (.int q0) A_a2 (by decide) rfl d8_20 rfl ?_
      refine o_aloadN H rfl rfl d8_21 rfl ?_
      refine o_iloadN H rfl d8_22 rfl ?_
      refine o_iaload H 1 (.int q1) A_a2 (by decide) rfl d8_23 rfl ?_
      refine o_icmp_le H d8_24 (pt := 59) (by decide) (by decide) rfl ?_ ?_
      · intro c24_19
        have s1 := Int32.toInt_lt q0
        have s2 := Int32.toInt_lt q1
        obtain ⟨s3, s4⟩ := hi1
        obtain ⟨s5, s6⟩ := hi2
        rw [n_lt] at c6_1
        rw [n_eq] at c15_18
        rw [n_lt] at c24_19
        exact o_return H rfl d8_59 (by decide) (by decide) ⟨rfl, (Keep.refl h0 [a1, a2]), _, _, _, _, A_a1, A_a2, ⟨s3, s4⟩, ⟨s5, s6⟩, by unfold own_K; omega, by unfold own_K; omega⟩
      · intro c24_19
        refine o_aloadN H rfl rfl d8_27 rfl ?_
        refine o_iloadN H rfl d8_28 rfl ?_
        refine o_iaload H 0 (.int r0) A_a1 (by decide) rfl d8_29 rfl ?_
        refine o_istore H (L' := #[.val (.ref a1), .val (.ref a2), .val (.int (0 : Int32)), .val (.int (1 : Int32)), .val (.int r0), .unset]) rfl d8_30 rfl ?_
        refine o_aloadN H rfl rfl d8_32 rfl ?_
        refine o_iloadN H rfl d8_33 rfl ?_
        refine o_aloadN H rfl rfl d8_34 rfl ?_
        refine o_iloadN H rfl d8_35 rfl ?_
        refine o_iaload H 1 (.int r1) A_a1 (by decide) rfl d8_36 rfl ?_
        refine o_iastore H 0 A_a1 (by decide) (Nat.le_of_ble_eq_true rfl) g_a1 d8_37 rfl ?_
        intro T20 h20 H20 W20 A20
        have k21 := (Keep.refl h0 [a1, a2]).wr W20 (Or.inl (by simp))
        have f22 := A_a2.other W20 (Ne.symm ne)
        have f23 : oA .int Z h20 a1 [(.int r1), (.int r1), (.int r2), (.int r3), (.int r4), (.int r5)] := A20
        refine o_aloadN H20 rfl rfl d8_38 rfl ?_
        refine o_iloadN H20 rfl d8_39 rfl ?_
        refine o_iload H20 rfl d8_40 rfl ?_
        refine o_iastore H20 1 f23 (by decide) (Nat.le_of_ble_eq_true rfl) g_a1 d8_42 rfl ?_
        intro T24 h24 H24 W24 A24
        have k25 := k21.wr W24 (Or.inl (by simp))
        have f26 := f22.other W24 (Ne.symm ne)
        have f27 : oA .int Z h24 a1 [(.int r1), (.int r0), (.int r2), (.int r3), (.int r4), (.int r5)] := A24
        refine o_aloadN H24 rfl rfl d8_43 rfl ?_
        refine o_iloadN H24 rfl d8_44 rfl ?_
        refine o_iaload H24 0 (.int q0) f26 (by decide) rfl d8_45 rfl ?_
        refine o_istore H24 (L' := #[.val (.ref a1), .val (.ref a2), .val (.int (0 : Int32)), .val (.int (1 : Int32)), .val (.int r0), .val (.int q0)]) rfl d8_46 rfl ?_
        refine o_aloadN H24 rfl rfl d8_48 rfl ?_
        refine o_iloadN H24 rfl d8_49 rfl ?_
        refine o_aloadN H24 rfl rfl d8_50 rfl ?_
        refine o_iloadN H24 rfl d8_51 rfl ?_
        refine o_iaload H24 1 (.int q1) f26 (by decide) rfl d8_52 rfl ?_
        refine o_iastore H24 0 f26 (by decide) (Nat.le_of_ble_eq_true rfl) g_a2 d8_53 rfl ?_
        intro T28 h28 H28 W28 A28
        have k29 := k25.wr W28 (Or.inl (by simp))
        have f30 := f27.other W28 ne
        have f31 : oA .int Z h28 a2 [(.int q1), (.int q1), (.int q2), (.int q3), (.int q4), (.int q5)] := A28
        refine o_aloadN H28 rfl rfl d8_54 rfl ?_
        refine o_iloadN H28 rfl d8_55 rfl ?_
        refine o_iload H28 rfl d8_56 rfl ?_
        refine o_iastore H28 1 f31 (by decide) (Nat.le_of_ble_eq_true rfl) g_a2 d8_58 rfl ?_
        intro T32 h32 H32 W32 A32
        have k33 := k29.wr W32 (Or.inl (by simp))
        have f34 := f30.other W32 ne
        have f35 : oA .int Z h32 a2 [(.int q1), (.int q0), (.int q2), (.int q3), (.int q4), (.int q5)] := A32
        have s1 := Int32.toInt_lt q0
        have s2 := Int32.toInt_lt q1
        obtain ⟨s3, s4⟩ := hi1
        obtain ⟨s5, s6⟩ := hi2
        rw [n_lt] at c6_1
        rw [n_eq] at c15_18
        rw [n_lt] at c24_19
        exact o_return H32 rfl d8_59 (by decide) (by decide) ⟨rfl, k33, _, _, _, _, f34, f35, ⟨s5, s6⟩, ⟨s3, s4⟩, by unfold own_K; omega, by unfold own_K; omega⟩
set_option maxRecDepth 65536 in
set_option maxHeartbeats 40000000 in
theorem rm8_23 (l : Launch) (Z : State) (a0 : Array Value) (hw : ∀ d ∈ tables_1, d.before a0 Z = true) (a1 : Addr) (a2 : Addr) (r0 r1 r2 r3 r4 r5 q0 q1 q2 q3 q4 q5 : Int32) (h0 : Heap) (n0 : Nat) (Z0 : n0 ≤ h0.size) (A_a1 : oA .int Z h0 a1 [(.int r0), (.int r1), (.int r2), (.int r3), (.int r4), (.int r5)]) (A_a2 : oA .int Z h0 a2 [(.int q0), (.int q1), (.int q2), (.int q3), (.int q4), (.int q5)]) (ne : a1 ≠ a2) (g_a1 : n0 ≤ a1) (g_a2 : n0 ≤ a2) (hi1 : own_in r2 q2) (hi2 : own_in r3 q3) :
    oC l Z n0 (⟨"com/example/bare_triage/baretriage/rank/TurnsTakePinLaw", "cx", "([I[III)V"⟩ : MethodName) method_4_code 6 none ({ frames := 0, cells := 0, slots := 0, locals := 0 } : Room) 0 0 #[(.ref a1), (.ref a2), (.int (2 : Int32)), (.int (3 : Int32))] h0 (fun v h => v = none ∧ Keep h0 h [a1, a2] ∧ ∃ ri rj qi qj : Int32, oA .int Z h a1 [(.int r0), (.int r1), (.int ri), (.int rj), (.int r4), (.int r5)] ∧ oA .int Z h a2 [(.int q0), (.int q1), (.int qi), (.int qj), (.int q4), (.int q5)] ∧ own_in ri qi ∧ own_in rj qj ∧ own_K ri qi = min (own_K r2 q2) (own_K r3 q3) ∧ own_K rj qj = max (own_K r2 q2) (own_K r3 q3)) := by
  refine oC.of (L := #[.val (.ref a1), .val (.ref a2), .val (.int (2 : Int32)), .val (.int (3 : Int32)), .unset, .unset]) pn8 Z0 (fun m => by first | (simp [entryFrame, mkF, argsToLocals, Value.category]; done) | rfl) ?_
  intro p e s m below meth c T H
  refine o_aloadN H rfl rfl d8_0 rfl ?_
  refine o_iloadN H rfl d8_1 rfl ?_
  refine o_iaload H 2 (.int r2) A_a1 (by decide) rfl d8_2 rfl ?_
  refine o_aloadN H rfl rfl d8_3 rfl ?_
  refine o_iloadN H rfl d8_4 rfl ?_
  refine o_iaload H 3 (.int r3) A_a1 (by decide) rfl d8_5 rfl ?_
  refine o_icmp_gt H d8_6 (pt := 27) (by decide) (by decide) rfl ?_ ?_
  · intro c6_1
    refine o_aloadN H rfl rfl d8_27 rfl ?_
    refine o_iloadN H rfl d8_28 rfl ?_
    refine o_iaload H 2 (.int r2) A_a1 (by decide) rfl d8_29 rfl ?_
    refine o_istore H (L' := #[.val (.ref a1), .val (.ref a2), .val (.int (2 : Int32)), .val (.int (3 : Int32)), .val (.int r2), .unset]) rfl d8_30 rfl ?_
    refine o_aloadN H rfl rfl d8_32 rfl ?_
    refine o_iloadN H rfl d8_33 rfl ?_
    refine o_aloadN H rfl rfl d8_34 rfl ?_
    refine o_iloadN H rfl d8_35 rfl ?_
    refine o_iaload H 3 (.int r3) A_a1 (by decide) rfl d8_36 rfl ?_
    refine o_iastore H 2 A_a1 (by decide) (Nat.le_of_ble_eq_true rfl) g_a1 d8_37 rfl ?_
    intro T2 h2 H2 W2 A2
    have k3 := (Keep.refl h0 [a1, a2]).wr W2 (Or.inl (by simp))
    have f4 := A_a2.other W2 (Ne.symm ne)
    have f5 : oA .int Z h2 a1 [(.int r0), (.int r1), (.int r3), (.int r3), (.int r4), (.int r5)] := A2
    refine o_aloadN H2 rfl rfl d8_38 rfl ?_
    refine o_iloadN H2 rfl d8_39 rfl ?_
    refine o_iload H2 rfl d8_40 rfl ?_
    refine o_iastore H2 3 f5 (by decide) (Nat.le_of_ble_eq_true rfl) g_a1 d8_42 rfl ?_
    intro T6 h6 H6 W6 A6
    have k7 := k3.wr W6 (Or.inl (by simp))
    have f8 := f4.other W6 (Ne.symm ne)
    have f9 : oA .int Z h6 a1 [(.int r0), (.int r1), (.int r3), (.int r2), (.int r4), (.int r5)] := A6
    refine o_aloadN H6 rfl rfl d8_43 rfl ?_
    refine o_iloadN H6 rfl d8_44 rfl ?_
    refine o_iaload H6 2 (.int q2) f8 (by decide) rfl d8_45 rfl ?_
    refine o_istore H6 (L' := #[.val (.ref a1), .val (.ref a2), .val (.int (2 : Int32)), .val (.int (3 : Int32)), .val (.int r2), .val (.int q2)]) rfl d8_46 rfl ?_
    refine o_aloadN H6 rfl rfl d8_48 rfl ?_
    refine o_iloadN H6 rfl d8_49 rfl ?_
    refine o_aloadN H6 rfl rfl d8_50 rfl ?_
    refine o_iloadN H6 rfl d8_51 rfl ?_
    refine o_iaload H6 3 (.int q3) f8 (by decide) rfl d8_52 rfl ?_
    refine o_iastore H6 2 f8 (by decide) (Nat.le_of_ble_eq_true rfl) g_a2 d8_53 rfl ?_
    intro T10 h10 H10 W10 A10
    have k11 := k7.wr W10 (Or.inl (by simp))
    have f12 := f9.other W10 ne
    have f13 : oA .int Z h10 a2 [(.int q0), (.int q1), (.int q3), (.int q3), (.int q4), (.int q5)] := A10
    refine o_aloadN H10 rfl rfl d8_54 rfl ?_
    refine o_iloadN H10 rfl d8_55 rfl ?_
    refine o_iload H10 rfl d8_56 rfl ?_
    refine o_iastore H10 3 f13 (by decide) (Nat.le_of_ble_eq_true rfl) g_a2 d8_58 rfl ?_
    intro T14 h14 H14 W14 A14
    have k15 := k11.wr W14 (Or.inl (by simp))
    have f16 := f12.other W14 ne
    have f17 : oA .int Z h14 a2 [(.int q0), (.int q1), (.int q3), (.int q2), (.int q4), (.int q5)] := A14
    have s1 := Int32.toInt_lt q2
    have s2 := Int32.toInt_lt q3
    obtain ⟨s3, s4⟩ := hi1
    obtain ⟨s5, s6⟩ := hi2
    rw [n_lt] at c6_1
    exact o_return H14 rfl d8_59 (by decide) (by decide) ⟨rfl, k15, _, _, _, _, f16, f17, ⟨s5, s6⟩, ⟨s3, s4⟩, by unfold own_K; omega, by unfold own_K; omega⟩
  · intro c6_1
    refine o_aloadN H rfl rfl d8_9 rfl ?_
    refine o_iloadN H rfl d8_10 rfl ?_
    refine o_iaload H 2 (.int r2) A_a1 (by decide) rfl d8_11 rfl ?_
    refine o_aloadN H rfl rfl d8_12 rfl ?_
    refine o_iloadN H rfl d8_13 rfl ?_
    refine o_iaload H 3 (.int r3) A_a1 (by decide) rfl d8_14 rfl ?_
    refine o_icmp_ne H d8_15 (pt := 59) (by decide) (by decide) rfl ?_ ?_
    · intro c15_18
      have s1 := Int32.toInt_lt q2
      have s2 := Int32.toInt_lt q3
      obtain ⟨s3, s4⟩ := hi1
      obtain ⟨s5, s6⟩ := hi2
      rw [n_lt] at c6_1
      rw [n_eq] at c15_18
      exact o_return H rfl d8_59 (by decide) (by decide) ⟨rfl, (Keep.refl h0 [a1, a2]), _, _, _, _, A_a1, A_a2, ⟨s3, s4⟩, ⟨s5, s6⟩, by unfold own_K; omega, by unfold own_K; omega⟩
    · intro c15_18
      refine o_aloadN H rfl rfl d8_18 rfl ?_
      refine o_iloadN H rfl d8_19 rfl ?_
      refine o_iaload H 2 (.int q2) A_a2 (by decide) rfl d8_20 rfl ?_
      refine o_aloadN H rfl rfl d8_21 rfl ?_
      refine o_iloadN H rfl d8_22 rfl ?_
      refine o_iaload H 3 (.int q3) A_a2 (by decide) rfl d8_23 rfl ?_
      refine o_icmp_le H d8_24 (pt := 59) (by decide) (by decide) rfl ?_ ?_
      · intro c24_19
        have s1 := Int32.toInt_lt q2
        have s2 := Int32.toInt_lt q3
        obtain ⟨s3, s4⟩ := hi1
        obtain ⟨s5, s6⟩ := hi2
        rw [n_lt] at c6_1
        rw [n_eq] at c15_18
        rw [n_lt] at c24_19
        exact o_return H rfl d8_59 (by decide) (by decide) ⟨rfl, (Keep.refl h0 [a1, a2]), _, _, _, _, A_a1, A_a2, ⟨s3, s4⟩, ⟨s5, s6⟩, by unfold own_K; omega, by unfold own_K; omega⟩
      · intro c24_19
        refine o_aloadN H rfl rfl d8_27 rfl ?_
        refine o_iloadN H rfl d8_28 rfl ?_
        refine o_iaload H 2 (.int r2) A_a1 (by decide) rfl d8_29 rfl ?_
        refine o_istore H (L' := #[.val (.ref a1), .val (.ref a2), .val (.int (2 : Int32)), .val (.int (3 : Int32)), .val (.int r2), .unset]) rfl d8_30 rfl ?_
        refine o_aloadN H rfl rfl d8_32 rfl ?_
        refine o_iloadN H rfl d8_33 rfl ?_
        refine o_aloadN H rfl rfl d8_34 rfl ?_
        refine o_iloadN H rfl d8_35 rfl ?_
        refine o_iaload H 3 (.int r3) A_a1 (by decide) rfl d8_36 rfl ?_
        refine o_iastore H 2 A_a1 (by decide) (Nat.le_of_ble_eq_true rfl) g_a1 d8_37 rfl ?_
        intro T20 h20 H20 W20 A20
        have k21 := (Keep.refl h0 [a1, a2]).wr W20 (Or.inl (by simp))
        have f22 := A_a2.other W20 (Ne.symm ne)
        have f23 : oA .int Z h20 a1 [(.int r0), (.int r1), (.int r3), (.int r3), (.int r4), (.int r5)] := A20
        refine o_aloadN H20 rfl rfl d8_38 rfl ?_
        refine o_iloadN H20 rfl d8_39 rfl ?_
        refine o_iload H20 rfl d8_40 rfl ?_
        refine o_iastore H20 3 f23 (by decide) (Nat.le_of_ble_eq_true rfl) g_a1 d8_42 rfl ?_
        intro T24 h24 H24 W24 A24
        have k25 := k21.wr W24 (Or.inl (by simp))
        have f26 := f22.other W24 (Ne.symm ne)
        have f27 : oA .int Z h24 a1 [(.int r0), (.int r1), (.int r3), (.int r2), (.int r4), (.int r5)] := A24
        refine o_aloadN H24 rfl rfl d8_43 rfl ?_
        refine o_iloadN H24 rfl d8_44 rfl ?_
        refine o_iaload H24 2 (.int q2) f26 (by decide) rfl d8_45 rfl ?_
        refine o_istore H24 (L' := #[.val (.ref a1), .val (.ref a2), .val (.int (2 : Int32)), .val (.int (3 : Int32)), .val (.int r2), .val (.int q2)]) rfl d8_46 rfl ?_
        refine o_aloadN H24 rfl rfl d8_48 rfl ?_
        refine o_iloadN H24 rfl d8_49 rfl ?_
        refine o_aloadN H24 rfl rfl d8_50 rfl ?_
        refine o_iloadN H24 rfl d8_51 rfl ?_
        refine o_iaload H24 3 (.int q3) f26 (by decide) rfl d8_52 rfl ?_
        refine o_iastore H24 2 f26 (by decide) (Nat.le_of_ble_eq_true rfl) g_a2 d8_53 rfl ?_
        intro T28 h28 H28 W28 A28
        have k29 := k25.wr W28 (Or.inl (by simp))
        have f30 := f27.other W28 ne
        have f31 : oA .int Z h28 a2 [(.int q0), (.int q1), (.int q3), (.int q3), (.int q4), (.int q5)] := A28
        refine o_aloadN H28 rfl rfl d8_54 rfl ?_
        refine o_iloadN H28 rfl d8_55 rfl ?_
        refine o_iload H28 rfl d8_56 rfl ?_
        refine o_iastore H28 3 f31 (by decide) (Nat.le_of_ble_eq_true rfl) g_a2 d8_58 rfl ?_
        intro T32 h32 H32 W32 A32
        have k33 := k29.wr W32 (Or.inl (by simp))
        have f34 := f30.other W32 ne
        have f35 : oA .int Z h32 a2 [(.int q0), (.int q1), (.int q3), (.int q2), (.int q4), (.int q5)] := A32
        have s1 := Int32.toInt_lt q2
        have s2 := Int32.toInt_lt q3
        obtain ⟨s3, s4⟩ := hi1
        obtain ⟨s5, s6⟩ := hi2
        rw [n_lt] at c6_1
        rw [n_eq] at c15_18
        rw [n_lt] at c24_19
        exact o_return H32 rfl d8_59 (by decide) (by decide) ⟨rfl, k33, _, _, _, _, f34, f35, ⟨s5, s6⟩, ⟨s3, s4⟩, by unfold own_K; omega, by unfold own_K; omega⟩
set_option maxRecDepth 65536 in
set_option maxHeartbeats 40000000 in
theorem rm8_45 (l : Launch) (Z : State) (a0 : Array Value) (hw : ∀ d ∈ tables_1, d.before a0 Z = true) (a1 : Addr) (a2 : Addr) (r0 r1 r2 r3 r4 r5 q0 q1 q2 q3 q4 q5 : Int32) (h0 : Heap) (n0 : Nat) (Z0 : n0 ≤ h0.size) (A_a1 : oA .int Z h0 a1 [(.int r0), (.int r1), (.int r2), (.int r3), (.int r4), (.int r5)]) (A_a2 : oA .int Z h0 a2 [(.int q0), (.int q1), (.int q2), (.int q3), (.int q4), (.int q5)]) (ne : a1 ≠ a2) (g_a1 : n0 ≤ a1) (g_a2 : n0 ≤ a2) (hi1 : own_in r4 q4) (hi2 : own_in r5 q5) :
    oC l Z n0 (⟨"com/example/bare_triage/baretriage/rank/TurnsTakePinLaw", "cx", "([I[III)V"⟩ : MethodName) method_4_code 6 none ({ frames := 0, cells := 0, slots := 0, locals := 0 } : Room) 0 0 #[(.ref a1), (.ref a2), (.int (4 : Int32)), (.int (5 : Int32))] h0 (fun v h => v = none ∧ Keep h0 h [a1, a2] ∧ ∃ ri rj qi qj : Int32, oA .int Z h a1 [(.int r0), (.int r1), (.int r2), (.int r3), (.int ri), (.int rj)] ∧ oA .int Z h a2 [(.int q0), (.int q1), (.int q2), (.int q3), (.int qi), (.int qj)] ∧ own_in ri qi ∧ own_in rj qj ∧ own_K ri qi = min (own_K r4 q4) (own_K r5 q5) ∧ own_K rj qj = max (own_K r4 q4) (own_K r5 q5)) := by
  refine oC.of (L := #[.val (.ref a1), .val (.ref a2), .val (.int (4 : Int32)), .val (.int (5 : Int32)), .unset, .unset]) pn8 Z0 (fun m => by first | (simp [entryFrame, mkF, argsToLocals, Value.category]; done) | rfl) ?_
  intro p e s m below meth c T H
  refine o_aloadN H rfl rfl d8_0 rfl ?_
  refine o_iloadN H rfl d8_1 rfl ?_
  refine o_iaload H 4 (.int r4) A_a1 (by decide) rfl d8_2 rfl ?_
  refine o_aloadN H rfl rfl d8_3 rfl ?_
  refine o_iloadN H rfl d8_4 rfl ?_
  refine o_iaload H 5 (.int r5) A_a1 (by decide) rfl d8_5 rfl ?_
  refine o_icmp_gt H d8_6 (pt := 27) (by decide) (by decide) rfl ?_ ?_
  · intro c6_1
    refine o_aloadN H rfl rfl d8_27 rfl ?_
    refine o_iloadN H rfl d8_28 rfl ?_
    refine o_iaload H 4 (.int r4) A_a1 (by decide) rfl d8_29 rfl ?_
    refine o_istore H (L' := #[.val (.ref a1), .val (.ref a2), .val (.int (4 : Int32)), .val (.int (5 : Int32)), .val (.int r4), .unset]) rfl d8_30 rfl ?_
    refine o_aloadN H rfl rfl d8_32 rfl ?_
    refine o_iloadN H rfl d8_33 rfl ?_
    refine o_aloadN H rfl rfl d8_34 rfl ?_
    refine o_iloadN H rfl d8_35 rfl ?_
    refine o_iaload H 5 (.int r5) A_a1 (by decide) rfl d8_36 rfl ?_
    refine o_iastore H 4 A_a1 (by decide) (Nat.le_of_ble_eq_true rfl) g_a1 d8_37 rfl ?_
    intro T2 h2 H2 W2 A2
    have k3 := (Keep.refl h0 [a1, a2]).wr W2 (Or.inl (by simp))
    have f4 := A_a2.other W2 (Ne.symm ne)
    have f5 : oA .int Z h2 a1 [(.int r0), (.int r1), (.int r2), (.int r3), (.int r5), (.int r5)] := A2
    refine o_aloadN H2 rfl rfl d8_38 rfl ?_
    refine o_iloadN H2 rfl d8_39 rfl ?_
    refine o_iload H2 rfl d8_40 rfl ?_
    refine o_iastore H2 5 f5 (by decide) (Nat.le_of_ble_eq_true rfl) g_a1 d8_42 rfl ?_
    intro T6 h6 H6 W6 A6
    have k7 := k3.wr W6 (Or.inl (by simp))
    have f8 := f4.other W6 (Ne.symm ne)
    have f9 : oA .int Z h6 a1 [(.int r0), (.int r1), (.int r2), (.int r3), (.int r5), (.int r4)] := A6
    refine o_aloadN H6 rfl rfl d8_43 rfl ?_
    refine o_iloadN H6 rfl d8_44 rfl ?_
    refine o_iaload H6 4 (.int q4) f8 (by decide) rfl d8_45 rfl ?_
    refine o_istore H6 (L' := #[.val (.ref a1), .val (.ref a2), .val (.int (4 : Int32)), .val (.int (5 : Int32)), .val (.int r4), .val (.int q4)]) rfl d8_46 rfl ?_
    refine o_aloadN H6 rfl rfl d8_48 rfl ?_
    refine o_iloadN H6 rfl d8_49 rfl ?_
    refine o_aloadN H6 rfl rfl d8_50 rfl ?_
    refine o_iloadN H6 rfl d8_51 rfl ?_
    refine o_iaload H6 5 (.int q5) f8 (by decide) rfl d8_52 rfl ?_
    refine o_iastore H6 4 f8 (by decide) (Nat.le_of_ble_eq_true rfl) g_a2 d8_53 rfl ?_
    intro T10 h10 H10 W10 A10
    have k11 := k7.wr W10 (Or.inl (by simp))
    have f12 := f9.other W10 ne
    have f13 : oA .int Z h10 a2 [(.int q0), (.int q1), (.int q2), (.int q3), (.int q5), (.int q5)] := A10
    refine o_aloadN H10 rfl rfl d8_54 rfl ?_
    refine o_iloadN H10 rfl d8_55 rfl ?_
    refine o_iload H10 rfl d8_56 rfl ?_
    refine o_iastore H10 5 f13 (by decide) (Nat.le_of_ble_eq_true rfl) g_a2 d8_58 rfl ?_
    intro T14 h14 H14 W14 A14
    have k15 := k11.wr W14 (Or.inl (by simp))
    have f16 := f12.other W14 ne
    have f17 : oA .int Z h14 a2 [(.int q0), (.int q1), (.int q2), (.int q3), (.int q5), (.int q4)] := A14
    have s1 := Int32.toInt_lt q4
    have s2 := Int32.toInt_lt q5
    obtain ⟨s3, s4⟩ := hi1
    obtain ⟨s5, s6⟩ := hi2
    rw [n_lt] at c6_1
    exact o_return H14 rfl d8_59 (by decide) (by decide) ⟨rfl, k15, _, _, _, _, f16, f17, ⟨s5, s6⟩, ⟨s3, s4⟩, by unfold own_K; omega, by unfold own_K; omega⟩
  · intro c6_1
    refine o_aloadN H rfl rfl d8_9 rfl ?_
    refine o_iloadN H rfl d8_10 rfl ?_
    refine o_iaload H 4 (.int r4) A_a1 (by decide) rfl d8_11 rfl ?_
    refine o_aloadN H rfl rfl d8_12 rfl ?_
    refine o_iloadN H rfl d8_13 rfl ?_
    refine o_iaload H 5 (.int r5) A_a1 (by decide) rfl d8_14 rfl ?_
    refine o_icmp_ne H d8_15 (pt := 59) (by decide) (by decide) rfl ?_ ?_
    · intro c15_18
      have s1 := Int32.toInt_lt q4
      have s2 := Int32.toInt_lt q5
      obtain ⟨s3, s4⟩ := hi1
      obtain ⟨s5, s6⟩ := hi2
      rw [n_lt] at c6_1
      rw [n_eq] at c15_18
      exact o_return H rfl d8_59 (by decide) (by decide) ⟨rfl, (Keep.refl h0 [a1, a2]), _, _, _, _, A_a1, A_a2, ⟨s3, s4⟩, ⟨s5, s6⟩, by unfold own_K; omega, by unfold own_K; omega⟩
    · intro c15_18
      refine o_aloadN H rfl rfl d8_18 rfl ?_
      refine o_iloadN H rfl d8_19 rfl ?_
      refine o_iaload H 4 (.int q4) A_a2 (by decide) rfl d8_20 rfl ?_
      refine o_aloadN H rfl rfl d8_21 rfl ?_
      refine o_iloadN H rfl d8_22 rfl ?_
      refine o_iaload H 5 (.int q5) A_a2 (by decide) rfl d8_23 rfl ?_
      refine o_icmp_le H d8_24 (pt := 59) (by decide) (by decide) rfl ?_ ?_
      · intro c24_19
        have s1 := Int32.toInt_lt q4
        have s2 := Int32.toInt_lt q5
        obtain ⟨s3, s4⟩ := hi1
        obtain ⟨s5, s6⟩ := hi2
        rw [n_lt] at c6_1
        rw [n_eq] at c15_18
        rw [n_lt] at c24_19
        exact o_return H rfl d8_59 (by decide) (by decide) ⟨rfl, (Keep.refl h0 [a1, a2]), _, _, _, _, A_a1, A_a2, ⟨s3, s4⟩, ⟨s5, s6⟩, by unfold own_K; omega, by unfold own_K; omega⟩
      · intro c24_19
        refine o_aloadN H rfl rfl d8_27 rfl ?_
        refine o_iloadN H rfl d8_28 rfl ?_
        refine o_iaload H 4 (.int r4) A_a1 (by decide) rfl d8_29 rfl ?_
        refine o_istore H (L' := #[.val (.ref a1), .val (.ref a2), .val (.int (4 : Int32)), .val (.int (5 : Int32)), .val (.int r4), .unset]) rfl d8_30 rfl ?_
        refine o_aloadN H rfl rfl d8_32 rfl ?_
        refine o_iloadN H rfl d8_33 rfl ?_
        refine o_aloadN H rfl rfl d8_34 rfl ?_
        refine o_iloadN H rfl d8_35 rfl ?_
        refine o_iaload H 5 (.int r5) A_a1 (by decide) rfl d8_36 rfl ?_
        refine o_iastore H 4 A_a1 (by decide) (Nat.le_of_ble_eq_true rfl) g_a1 d8_37 rfl ?_
        intro T20 h20 H20 W20 A20
        have k21 := (Keep.refl h0 [a1, a2]).wr W20 (Or.inl (by simp))
        have f22 := A_a2.other W20 (Ne.symm ne)
        have f23 : oA .int Z h20 a1 [(.int r0), (.int r1), (.int r2), (.int r3), (.int r5), (.int r5)] := A20
        refine o_aloadN H20 rfl rfl d8_38 rfl ?_
        refine o_iloadN H20 rfl d8_39 rfl ?_
        refine o_iload H20 rfl d8_40 rfl ?_
        refine o_iastore H20 5 f23 (by decide) (Nat.le_of_ble_eq_true rfl) g_a1 d8_42 rfl ?_
        intro T24 h24 H24 W24 A24
        have k25 := k21.wr W24 (Or.inl (by simp))
        have f26 := f22.other W24 (Ne.symm ne)
        have f27 : oA .int Z h24 a1 [(.int r0), (.int r1), (.int r2), (.int r3), (.int r5), (.int r4)] := A24
        refine o_aloadN H24 rfl rfl d8_43 rfl ?_
        refine o_iloadN H24 rfl d8_44 rfl ?_
        refine o_iaload H24 4 (.int q4) f26 (by decide) rfl d8_45 rfl ?_
        refine o_istore H24 (L' := #[.val (.ref a1), .val (.ref a2), .val (.int (4 : Int32)), .val (.int (5 : Int32)), .val (.int r4), .val (.int q4)]) rfl d8_46 rfl ?_
        refine o_aloadN H24 rfl rfl d8_48 rfl ?_
        refine o_iloadN H24 rfl d8_49 rfl ?_
        refine o_aloadN H24 rfl rfl d8_50 rfl ?_
        refine o_iloadN H24 rfl d8_51 rfl ?_
        refine o_iaload H24 5 (.int q5) f26 (by decide) rfl d8_52 rfl ?_
        refine o_iastore H24 4 f26 (by decide) (Nat.le_of_ble_eq_true rfl) g_a2 d8_53 rfl ?_
        intro T28 h28 H28 W28 A28
        have k29 := k25.wr W28 (Or.inl (by simp))
        have f30 := f27.other W28 ne
        have f31 : oA .int Z h28 a2 [(.int q0), (.int q1), (.int q2), (.int q3), (.int q5), (.int q5)] := A28
        refine o_aloadN H28 rfl rfl d8_54 rfl ?_
        refine o_iloadN H28 rfl d8_55 rfl ?_
        refine o_iload H28 rfl d8_56 rfl ?_
        refine o_iastore H28 5 f31 (by decide) (Nat.le_of_ble_eq_true rfl) g_a2 d8_58 rfl ?_
        intro T32 h32 H32 W32 A32
        have k33 := k29.wr W32 (Or.inl (by simp))
        have f34 := f30.other W32 ne
        have f35 : oA .int Z h32 a2 [(.int q0), (.int q1), (.int q2), (.int q3), (.int q5), (.int q4)] := A32
        have s1 := Int32.toInt_lt q4
        have s2 := Int32.toInt_lt q5
        obtain ⟨s3, s4⟩ := hi1
        obtain ⟨s5, s6⟩ := hi2
        rw [n_lt] at c6_1
        rw [n_eq] at c15_18
        rw [n_lt] at c24_19
        exact o_return H32 rfl d8_59 (by decide) (by decide) ⟨rfl, k33, _, _, _, _, f34, f35, ⟨s5, s6⟩, ⟨s3, s4⟩, by unfold own_K; omega, by unfold own_K; omega⟩
set_option maxRecDepth 65536 in
set_option maxHeartbeats 40000000 in
theorem rm8_12 (l : Launch) (Z : State) (a0 : Array Value) (hw : ∀ d ∈ tables_1, d.before a0 Z = true) (a1 : Addr) (a2 : Addr) (r0 r1 r2 r3 r4 r5 q0 q1 q2 q3 q4 q5 : Int32) (h0 : Heap) (n0 : Nat) (Z0 : n0 ≤ h0.size) (A_a1 : oA .int Z h0 a1 [(.int r0), (.int r1), (.int r2), (.int r3), (.int r4), (.int r5)]) (A_a2 : oA .int Z h0 a2 [(.int q0), (.int q1), (.int q2), (.int q3), (.int q4), (.int q5)]) (ne : a1 ≠ a2) (g_a1 : n0 ≤ a1) (g_a2 : n0 ≤ a2) (hi1 : own_in r1 q1) (hi2 : own_in r2 q2) :
    oC l Z n0 (⟨"com/example/bare_triage/baretriage/rank/TurnsTakePinLaw", "cx", "([I[III)V"⟩ : MethodName) method_4_code 6 none ({ frames := 0, cells := 0, slots := 0, locals := 0 } : Room) 0 0 #[(.ref a1), (.ref a2), (.int (1 : Int32)), (.int (2 : Int32))] h0 (fun v h => v = none ∧ Keep h0 h [a1, a2] ∧ ∃ ri rj qi qj : Int32, oA .int Z h a1 [(.int r0), (.int ri), (.int rj), (.int r3), (.int r4), (.int r5)] ∧ oA .int Z h a2 [(.int q0), (.int qi), (.int qj), (.int q3), (.int q4), (.int q5)] ∧ own_in ri qi ∧ own_in rj qj ∧ own_K ri qi = min (own_K r1 q1) (own_K r2 q2) ∧ own_K rj qj = max (own_K r1 q1) (own_K r2 q2)) := by
  refine oC.of (L := #[.val (.ref a1), .val (.ref a2), .val (.int (1 : Int32)), .val (.int (2 : Int32)), .unset, .unset]) pn8 Z0 (fun m => by first | (simp [entryFrame, mkF, argsToLocals, Value.category]; done) | rfl) ?_
  intro p e s m below meth c T H
  refine o_aloadN H rfl rfl d8_0 rfl ?_
  refine o_iloadN H rfl d8_1 rfl ?_
  refine o_iaload H 1 (.int r1) A_a1 (by decide) rfl d8_2 rfl ?_
  refine o_aloadN H rfl rfl d8_3 rfl ?_
  refine o_iloadN H rfl d8_4 rfl ?_
  refine o_iaload H 2 (.int r2) A_a1 (by decide) rfl d8_5 rfl ?_
  refine o_icmp_gt H d8_6 (pt := 27) (by decide) (by decide) rfl ?_ ?_
  · intro c6_1
    refine o_aloadN H rfl rfl d8_27 rfl ?_
    refine o_iloadN H rfl d8_28 rfl ?_
    refine o_iaload H 1 (.int r1) A_a1 (by decide) rfl d8_29 rfl ?_
    refine o_istore H (L' := #[.val (.ref a1), .val (.ref a2), .val (.int (1 : Int32)), .val (.int (2 : Int32)), .val (.int r1), .unset]) rfl d8_30 rfl ?_
    refine o_aloadN H rfl rfl d8_32 rfl ?_
    refine o_iloadN H rfl d8_33 rfl ?_
    refine o_aloadN H rfl rfl d8_34 rfl ?_
    refine o_iloadN H rfl d8_35 rfl ?_
    refine o_iaload H 2 (.int r2) A_a1 (by decide) rfl d8_36 rfl ?_
    refine o_iastore H 1 A_a1 (by decide) (Nat.le_of_ble_eq_true rfl) g_a1 d8_37 rfl ?_
    intro T2 h2 H2 W2 A2
    have k3 := (Keep.refl h0 [a1, a2]).wr W2 (Or.inl (by simp))
    have f4 := A_a2.other W2 (Ne.symm ne)
    have f5 : oA .int Z h2 a1 [(.int r0), (.int r2), (.int r2), (.int r3), (.int r4), (.int r5)] := A2
    refine o_aloadN H2 rfl rfl d8_38 rfl ?_
    refine o_iloadN H2 rfl d8_39 rfl ?_
    refine o_iload H2 rfl d8_40 rfl ?_
    refine o_iastore H2 2 f5 (by decide) (Nat.le_of_ble_eq_true rfl) g_a1 d8_42 rfl ?_
    intro T6 h6 H6 W6 A6
    have k7 := k3.wr W6 (Or.inl (by simp))
    have f8 := f4.other W6 (Ne.symm ne)
    have f9 : oA .int Z h6 a1 [(.int r0), (.int r2), (.int r1), (.int r3), (.int r4), (.int r5)] := A6
    refine o_aloadN H6 rfl rfl d8_43 rfl ?_
    refine o_iloadN H6 rfl d8_44 rfl ?_
    refine o_iaload H6 1 (.int q1) f8 (by decide) rfl d8_45 rfl ?_
    refine o_istore H6 (L' := #[.val (.ref a1), .val (.ref a2), .val (.int (1 : Int32)), .val (.int (2 : Int32)), .val (.int r1), .val (.int q1)]) rfl d8_46 rfl ?_
    refine o_aloadN H6 rfl rfl d8_48 rfl ?_
    refine o_iloadN H6 rfl d8_49 rfl ?_
    refine o_aloadN H6 rfl rfl d8_50 rfl ?_
    refine o_iloadN H6 rfl d8_51 rfl ?_
    refine o_iaload H6 2 (.int q2) f8 (by decide) rfl d8_52 rfl ?_
    refine o_iastore H6 1 f8 (by decide) (Nat.le_of_ble_eq_true rfl) g_a2 d8_53 rfl ?_
    intro T10 h10 H10 W10 A10
    have k11 := k7.wr W10 (Or.inl (by simp))
    have f12 := f9.other W10 ne
    have f13 : oA .int Z h10 a2 [(.int q0), (.int q2), (.int q2), (.int q3), (.int q4), (.int q5)] := A10
    refine o_aloadN H10 rfl rfl d8_54 rfl ?_
    refine o_iloadN H10 rfl d8_55 rfl ?_
    refine o_iload H10 rfl d8_56 rfl ?_
    refine o_iastore H10 2 f13 (by decide) (Nat.le_of_ble_eq_true rfl) g_a2 d8_58 rfl ?_
    intro T14 h14 H14 W14 A14
    have k15 := k11.wr W14 (Or.inl (by simp))
    have f16 := f12.other W14 ne
    have f17 : oA .int Z h14 a2 [(.int q0), (.int q2), (.int q1), (.int q3), (.int q4), (.int q5)] := A14
    have s1 := Int32.toInt_lt q1
    have s2 := Int32.toInt_lt q2
    obtain ⟨s3, s4⟩ := hi1
    obtain ⟨s5, s6⟩ := hi2
    rw [n_lt] at c6_1
    exact o_return H14 rfl d8_59 (by decide) (by decide) ⟨rfl, k15, _, _, _, _, f16, f17, ⟨s5, s6⟩, ⟨s3, s4⟩, by unfold own_K; omega, by unfold own_K; omega⟩
  · intro c6_1
    refine o_aloadN H rfl rfl d8_9 rfl ?_
    refine o_iloadN H rfl d8_10 rfl ?_
    refine o_iaload H 1 (.int r1) A_a1 (by decide) rfl d8_11 rfl ?_
    refine o_aloadN H rfl rfl d8_12 rfl ?_
    refine o_iloadN H rfl d8_13 rfl ?_
    refine o_iaload H 2 (.int r2) A_a1 (by decide) rfl d8_14 rfl ?_
    refine o_icmp_ne H d8_15 (pt := 59) (by decide) (by decide) rfl ?_ ?_
    · intro c15_18
      have s1 := Int32.toInt_lt q1
      have s2 := Int32.toInt_lt q2
      obtain ⟨s3, s4⟩ := hi1
      obtain ⟨s5, s6⟩ := hi2
      rw [n_lt] at c6_1
      rw [n_eq] at c15_18
      exact o_return H rfl d8_59 (by decide) (by decide) ⟨rfl, (Keep.refl h0 [a1, a2]), _, _, _, _, A_a1, A_a2, ⟨s3, s4⟩, ⟨s5, s6⟩, by unfold own_K; omega, by unfold own_K; omega⟩
    · intro c15_18
      refine o_aloadN H rfl rfl d8_18 rfl ?_
      refine o_iloadN H rfl d8_19 rfl ?_
      refine o_iaload H 1 (.int q1) A_a2 (by decide) rfl d8_20 rfl ?_
      refine o_aloadN H rfl rfl d8_21 rfl ?_
      refine o_iloadN H rfl d8_22 rfl ?_
      refine o_iaload H 2 (.int q2) A_a2 (by decide) rfl d8_23 rfl ?_
      refine o_icmp_le H d8_24 (pt := 59) (by decide) (by decide) rfl ?_ ?_
      · intro c24_19
        have s1 := Int32.toInt_lt q1
        have s2 := Int32.toInt_lt q2
        obtain ⟨s3, s4⟩ := hi1
        obtain ⟨s5, s6⟩ := hi2
        rw [n_lt] at c6_1
        rw [n_eq] at c15_18
        rw [n_lt] at c24_19
        exact o_return H rfl d8_59 (by decide) (by decide) ⟨rfl, (Keep.refl h0 [a1, a2]), _, _, _, _, A_a1, A_a2, ⟨s3, s4⟩, ⟨s5, s6⟩, by unfold own_K; omega, by unfold own_K; omega⟩
      · intro c24_19
        refine o_aloadN H rfl rfl d8_27 rfl ?_
        refine o_iloadN H rfl d8_28 rfl ?_
        refine o_iaload H 1 (.int r1) A_a1 (by decide) rfl d8_29 rfl ?_
        refine o_istore H (L' := #[.val (.ref a1), .val (.ref a2), .val (.int (1 : Int32)), .val (.int (2 : Int32)), .val (.int r1), .unset]) rfl d8_30 rfl ?_
        refine o_aloadN H rfl rfl d8_32 rfl ?_
        refine o_iloadN H rfl d8_33 rfl ?_
        refine o_aloadN H rfl rfl d8_34 rfl ?_
        refine o_iloadN H rfl d8_35 rfl ?_
        refine o_iaload H 2 (.int r2) A_a1 (by decide) rfl d8_36 rfl ?_
        refine o_iastore H 1 A_a1 (by decide) (Nat.le_of_ble_eq_true rfl) g_a1 d8_37 rfl ?_
        intro T20 h20 H20 W20 A20
        have k21 := (Keep.refl h0 [a1, a2]).wr W20 (Or.inl (by simp))
        have f22 := A_a2.other W20 (Ne.symm ne)
        have f23 : oA .int Z h20 a1 [(.int r0), (.int r2), (.int r2), (.int r3), (.int r4), (.int r5)] := A20
        refine o_aloadN H20 rfl rfl d8_38 rfl ?_
        refine o_iloadN H20 rfl d8_39 rfl ?_
        refine o_iload H20 rfl d8_40 rfl ?_
        refine o_iastore H20 2 f23 (by decide) (Nat.le_of_ble_eq_true rfl) g_a1 d8_42 rfl ?_
        intro T24 h24 H24 W24 A24
        have k25 := k21.wr W24 (Or.inl (by simp))
        have f26 := f22.other W24 (Ne.symm ne)
        have f27 : oA .int Z h24 a1 [(.int r0), (.int r2), (.int r1), (.int r3), (.int r4), (.int r5)] := A24
        refine o_aloadN H24 rfl rfl d8_43 rfl ?_
        refine o_iloadN H24 rfl d8_44 rfl ?_
        refine o_iaload H24 1 (.int q1) f26 (by decide) rfl d8_45 rfl ?_
        refine o_istore H24 (L' := #[.val (.ref a1), .val (.ref a2), .val (.int (1 : Int32)), .val (.int (2 : Int32)), .val (.int r1), .val (.int q1)]) rfl d8_46 rfl ?_
        refine o_aloadN H24 rfl rfl d8_48 rfl ?_
        refine o_iloadN H24 rfl d8_49 rfl ?_
        refine o_aloadN H24 rfl rfl d8_50 rfl ?_
        refine o_iloadN H24 rfl d8_51 rfl ?_
        refine o_iaload H24 2 (.int q2) f26 (by decide) rfl d8_52 rfl ?_
        refine o_iastore H24 1 f26 (by decide) (Nat.le_of_ble_eq_true rfl) g_a2 d8_53 rfl ?_
        intro T28 h28 H28 W28 A28
        have k29 := k25.wr W28 (Or.inl (by simp))
        have f30 := f27.other W28 ne
        have f31 : oA .int Z h28 a2 [(.int q0), (.int q2), (.int q2), (.int q3), (.int q4), (.int q5)] := A28
        refine o_aloadN H28 rfl rfl d8_54 rfl ?_
        refine o_iloadN H28 rfl d8_55 rfl ?_
        refine o_iload H28 rfl d8_56 rfl ?_
        refine o_iastore H28 2 f31 (by decide) (Nat.le_of_ble_eq_true rfl) g_a2 d8_58 rfl ?_
        intro T32 h32 H32 W32 A32
        have k33 := k29.wr W32 (Or.inl (by simp))
        have f34 := f30.other W32 ne
        have f35 : oA .int Z h32 a2 [(.int q0), (.int q2), (.int q1), (.int q3), (.int q4), (.int q5)] := A32
        have s1 := Int32.toInt_lt q1
        have s2 := Int32.toInt_lt q2
        obtain ⟨s3, s4⟩ := hi1
        obtain ⟨s5, s6⟩ := hi2
        rw [n_lt] at c6_1
        rw [n_eq] at c15_18
        rw [n_lt] at c24_19
        exact o_return H32 rfl d8_59 (by decide) (by decide) ⟨rfl, k33, _, _, _, _, f34, f35, ⟨s5, s6⟩, ⟨s3, s4⟩, by unfold own_K; omega, by unfold own_K; omega⟩
set_option maxRecDepth 65536 in
set_option maxHeartbeats 40000000 in
theorem rm8_34 (l : Launch) (Z : State) (a0 : Array Value) (hw : ∀ d ∈ tables_1, d.before a0 Z = true) (a1 : Addr) (a2 : Addr) (r0 r1 r2 r3 r4 r5 q0 q1 q2 q3 q4 q5 : Int32) (h0 : Heap) (n0 : Nat) (Z0 : n0 ≤ h0.size) (A_a1 : oA .int Z h0 a1 [(.int r0), (.int r1), (.int r2), (.int r3), (.int r4), (.int r5)]) (A_a2 : oA .int Z h0 a2 [(.int q0), (.int q1), (.int q2), (.int q3), (.int q4), (.int q5)]) (ne : a1 ≠ a2) (g_a1 : n0 ≤ a1) (g_a2 : n0 ≤ a2) (hi1 : own_in r3 q3) (hi2 : own_in r4 q4) :
    oC l Z n0 (⟨"com/example/bare_triage/baretriage/rank/TurnsTakePinLaw", "cx", "([I[III)V"⟩ : MethodName) method_4_code 6 none ({ frames := 0, cells := 0, slots := 0, locals := 0 } : Room) 0 0 #[(.ref a1), (.ref a2), (.int (3 : Int32)), (.int (4 : Int32))] h0 (fun v h => v = none ∧ Keep h0 h [a1, a2] ∧ ∃ ri rj qi qj : Int32, oA .int Z h a1 [(.int r0), (.int r1), (.int r2), (.int ri), (.int rj), (.int r5)] ∧ oA .int Z h a2 [(.int q0), (.int q1), (.int q2), (.int qi), (.int qj), (.int q5)] ∧ own_in ri qi ∧ own_in rj qj ∧ own_K ri qi = min (own_K r3 q3) (own_K r4 q4) ∧ own_K rj qj = max (own_K r3 q3) (own_K r4 q4)) := by
  refine oC.of (L := #[.val (.ref a1), .val (.ref a2), .val (.int (3 : Int32)), .val (.int (4 : Int32)), .unset, .unset]) pn8 Z0 (fun m => by first | (simp [entryFrame, mkF, argsToLocals, Value.category]; done) | rfl) ?_
  intro p e s m below meth c T H
  refine o_aloadN H rfl rfl d8_0 rfl ?_
  refine o_iloadN H rfl d8_1 rfl ?_
  refine o_iaload H 3 (.int r3) A_a1 (by decide) rfl d8_2 rfl ?_
  refine o_aloadN H rfl rfl d8_3 rfl ?_
  refine o_iloadN H rfl d8_4 rfl ?_
  refine o_iaload H 4 (.int r4) A_a1 (by decide) rfl d8_5 rfl ?_
  refine o_icmp_gt H d8_6 (pt := 27) (by decide) (by decide) rfl ?_ ?_
  · intro c6_1
    refine o_aloadN H rfl rfl d8_27 rfl ?_
    refine o_iloadN H rfl d8_28 rfl ?_
    refine o_iaload H 3 (.int r3) A_a1 (by decide) rfl d8_29 rfl ?_
    refine o_istore H (L' := #[.val (.ref a1), .val (.ref a2), .val (.int (3 : Int32)), .val (.int (4 : Int32)), .val (.int r3), .unset]) rfl d8_30 rfl ?_
    refine o_aloadN H rfl rfl d8_32 rfl ?_
    refine o_iloadN H rfl d8_33 rfl ?_
    refine o_aloadN H rfl rfl d8_34 rfl ?_
    refine o_iloadN H rfl d8_35 rfl ?_
    refine o_iaload H 4 (.int r4) A_a1 (by decide) rfl d8_36 rfl ?_
    refine o_iastore H 3 A_a1 (by decide) (Nat.le_of_ble_eq_true rfl) g_a1 d8_37 rfl ?_
    intro T2 h2 H2 W2 A2
    have k3 := (Keep.refl h0 [a1, a2]).wr W2 (Or.inl (by simp))
    have f4 := A_a2.other W2 (Ne.symm ne)
    have f5 : oA .int Z h2 a1 [(.int r0), (.int r1), (.int r2), (.int r4), (.int r4), (.int r5)] := A2
    refine o_aloadN H2 rfl rfl d8_38 rfl ?_
    refine o_iloadN H2 rfl d8_39 rfl ?_
    refine o_iload H2 rfl d8_40 rfl ?_
    refine o_iastore H2 4 f5 (by decide) (Nat.le_of_ble_eq_true rfl) g_a1 d8_42 rfl ?_
    intro T6 h6 H6 W6 A6
    have k7 := k3.wr W6 (Or.inl (by simp))
    have f8 := f4.other W6 (Ne.symm ne)
    have f9 : oA .int Z h6 a1 [(.int r0), (.int r1), (.int r2), (.int r4), (.int r3), (.int r5)] := A6
    refine o_aloadN H6 rfl rfl d8_43 rfl ?_
    refine o_iloadN H6 rfl d8_44 rfl ?_
    refine o_iaload H6 3 (.int q3) f8 (by decide) rfl d8_45 rfl ?_
    refine o_istore H6 (L' := #[.val (.ref a1), .val (.ref a2), .val (.int (3 : Int32)), .val (.int (4 : Int32)), .val (.int r3), .val (.int q3)]) rfl d8_46 rfl ?_
    refine o_aloadN H6 rfl rfl d8_48 rfl ?_
    refine o_iloadN H6 rfl d8_49 rfl ?_
    refine o_aloadN H6 rfl rfl d8_50 rfl ?_
    refine o_iloadN H6 rfl d8_51 rfl ?_
    refine o_iaload H6 4 (.int q4) f8 (by decide) rfl d8_52 rfl ?_
    refine o_iastore H6 3 f8 (by decide) (Nat.le_of_ble_eq_true rfl) g_a2 d8_53 rfl ?_
    intro T10 h10 H10 W10 A10
    have k11 := k7.wr W10 (Or.inl (by simp))
    have f12 := f9.other W10 ne
    have f13 : oA .int Z h10 a2 [(.int q0), (.int q1), (.int q2), (.int q4), (.int q4), (.int q5)] := A10
    refine o_aloadN H10 rfl rfl d8_54 rfl ?_
    refine o_iloadN H10 rfl d8_55 rfl ?_
    refine o_iload H10 rfl d8_56 rfl ?_
    refine o_iastore H10 4 f13 (by decide) (Nat.le_of_ble_eq_true rfl) g_a2 d8_58 rfl ?_
    intro T14 h14 H14 W14 A14
    have k15 := k11.wr W14 (Or.inl (by simp))
    have f16 := f12.other W14 ne
    have f17 : oA .int Z h14 a2 [(.int q0), (.int q1), (.int q2), (.int q4), (.int q3), (.int q5)] := A14
    have s1 := Int32.toInt_lt q3
    have s2 := Int32.toInt_lt q4
    obtain ⟨s3, s4⟩ := hi1
    obtain ⟨s5, s6⟩ := hi2
    rw [n_lt] at c6_1
    exact o_return H14 rfl d8_59 (by decide) (by decide) ⟨rfl, k15, _, _, _, _, f16, f17, ⟨s5, s6⟩, ⟨s3, s4⟩, by unfold own_K; omega, by unfold own_K; omega⟩
  · intro c6_1
    refine o_aloadN H rfl rfl d8_9 rfl ?_
    refine o_iloadN H rfl d8_10 rfl ?_
    refine o_iaload H 3 (.int r3) A_a1 (by decide) rfl d8_11 rfl ?_
    refine o_aloadN H rfl rfl d8_12 rfl ?_
    refine o_iloadN H rfl d8_13 rfl ?_
    refine o_iaload H 4 (.int r4) A_a1 (by decide) rfl d8_14 rfl ?_
    refine o_icmp_ne H d8_15 (pt := 59) (by decide) (by decide) rfl ?_ ?_
    · intro c15_18
      have s1 := Int32.toInt_lt q3
      have s2 := Int32.toInt_lt q4
      obtain ⟨s3, s4⟩ := hi1
      obtain ⟨s5, s6⟩ := hi2
      rw [n_lt] at c6_1
      rw [n_eq] at c15_18
      exact o_return H rfl d8_59 (by decide) (by decide) ⟨rfl, (Keep.refl h0 [a1, a2]), _, _, _, _, A_a1, A_a2, ⟨s3, s4⟩, ⟨s5, s6⟩, by unfold own_K; omega, by unfold own_K; omega⟩
    · intro c15_18
      refine o_aloadN H rfl rfl d8_18 rfl ?_
      refine o_iloadN H rfl d8_19 rfl ?_
      refine o_iaload H 3 (.int q3) A_a2 (by decide) rfl d8_20 rfl ?_
      refine o_aloadN H rfl rfl d8_21 rfl ?_
      refine o_iloadN H rfl d8_22 rfl ?_
      refine o_iaload H 4 (.int q4) A_a2 (by decide) rfl d8_23 rfl ?_
      refine o_icmp_le H d8_24 (pt := 59) (by decide) (by decide) rfl ?_ ?_
      · intro c24_19
        have s1 := Int32.toInt_lt q3
        have s2 := Int32.toInt_lt q4
        obtain ⟨s3, s4⟩ := hi1
        obtain ⟨s5, s6⟩ := hi2
        rw [n_lt] at c6_1
        rw [n_eq] at c15_18
        rw [n_lt] at c24_19
        exact o_return H rfl d8_59 (by decide) (by decide) ⟨rfl, (Keep.refl h0 [a1, a2]), _, _, _, _, A_a1, A_a2, ⟨s3, s4⟩, ⟨s5, s6⟩, by unfold own_K; omega, by unfold own_K; omega⟩
      · intro c24_19
        refine o_aloadN H rfl rfl d8_27 rfl ?_
        refine o_iloadN H rfl d8_28 rfl ?_
        refine o_iaload H 3 (.int r3) A_a1 (by decide) rfl d8_29 rfl ?_
        refine o_istore H (L' := #[.val (.ref a1), .val (.ref a2), .val (.int (3 : Int32)), .val (.int (4 : Int32)), .val (.int r3), .unset]) rfl d8_30 rfl ?_
        refine o_aloadN H rfl rfl d8_32 rfl ?_
        refine o_iloadN H rfl d8_33 rfl ?_
        refine o_aloadN H rfl rfl d8_34 rfl ?_
        refine o_iloadN H rfl d8_35 rfl ?_
        refine o_iaload H 4 (.int r4) A_a1 (by decide) rfl d8_36 rfl ?_
        refine o_iastore H 3 A_a1 (by decide) (Nat.le_of_ble_eq_true rfl) g_a1 d8_37 rfl ?_
        intro T20 h20 H20 W20 A20
        have k21 := (Keep.refl h0 [a1, a2]).wr W20 (Or.inl (by simp))
        have f22 := A_a2.other W20 (Ne.symm ne)
        have f23 : oA .int Z h20 a1 [(.int r0), (.int r1), (.int r2), (.int r4), (.int r4), (.int r5)] := A20
        refine o_aloadN H20 rfl rfl d8_38 rfl ?_
        refine o_iloadN H20 rfl d8_39 rfl ?_
        refine o_iload H20 rfl d8_40 rfl ?_
        refine o_iastore H20 4 f23 (by decide) (Nat.le_of_ble_eq_true rfl) g_a1 d8_42 rfl ?_
        intro T24 h24 H24 W24 A24
        have k25 := k21.wr W24 (Or.inl (by simp))
        have f26 := f22.other W24 (Ne.symm ne)
        have f27 : oA .int Z h24 a1 [(.int r0), (.int r1), (.int r2), (.int r4), (.int r3), (.int r5)] := A24
        refine o_aloadN H24 rfl rfl d8_43 rfl ?_
        refine o_iloadN H24 rfl d8_44 rfl ?_
        refine o_iaload H24 3 (.int q3) f26 (by decide) rfl d8_45 rfl ?_
        refine o_istore H24 (L' := #[.val (.ref a1), .val (.ref a2), .val (.int (3 : Int32)), .val (.int (4 : Int32)), .val (.int r3), .val (.int q3)]) rfl d8_46 rfl ?_
        refine o_aloadN H24 rfl rfl d8_48 rfl ?_
        refine o_iloadN H24 rfl d8_49 rfl ?_
        refine o_aloadN H24 rfl rfl d8_50 rfl ?_
        refine o_iloadN H24 rfl d8_51 rfl ?_
        refine o_iaload H24 4 (.int q4) f26 (by decide) rfl d8_52 rfl ?_
        refine o_iastore H24 3 f26 (by decide) (Nat.le_of_ble_eq_true rfl) g_a2 d8_53 rfl ?_
        intro T28 h28 H28 W28 A28
        have k29 := k25.wr W28 (Or.inl (by simp))
        have f30 := f27.other W28 ne
        have f31 : oA .int Z h28 a2 [(.int q0), (.int q1), (.int q2), (.int q4), (.int q4), (.int q5)] := A28
        refine o_aloadN H28 rfl rfl d8_54 rfl ?_
        refine o_iloadN H28 rfl d8_55 rfl ?_
        refine o_iload H28 rfl d8_56 rfl ?_
        refine o_iastore H28 4 f31 (by decide) (Nat.le_of_ble_eq_true rfl) g_a2 d8_58 rfl ?_
        intro T32 h32 H32 W32 A32
        have k33 := k29.wr W32 (Or.inl (by simp))
        have f34 := f30.other W32 ne
        have f35 : oA .int Z h32 a2 [(.int q0), (.int q1), (.int q2), (.int q4), (.int q3), (.int q5)] := A32
        have s1 := Int32.toInt_lt q3
        have s2 := Int32.toInt_lt q4
        obtain ⟨s3, s4⟩ := hi1
        obtain ⟨s5, s6⟩ := hi2
        rw [n_lt] at c6_1
        rw [n_eq] at c15_18
        rw [n_lt] at c24_19
        exact o_return H32 rfl d8_59 (by decide) (by decide) ⟨rfl, k33, _, _, _, _, f34, f35, ⟨s5, s6⟩, ⟨s3, s4⟩, by unfold own_K; omega, by unfold own_K; omega⟩
theorem d7_0 : decode method_5_code 0 = .ok (.aload_n 0, 1) := by decide +kernel
theorem d7_1 : decode method_5_code 1 = .ok (.aload_n 1, 1) := by decide +kernel
theorem d7_2 : decode method_5_code 2 = .ok (.iconst 0, 1) := by decide +kernel
theorem d7_3 : decode method_5_code 3 = .ok (.iconst 1, 1) := by decide +kernel
theorem d7_4 : decode method_5_code 4 = .ok (.invokestatic 14, 3) := by decide +kernel
theorem d7_7 : decode method_5_code 7 = .ok (.aload_n 0, 1) := by decide +kernel
theorem d7_8 : decode method_5_code 8 = .ok (.aload_n 1, 1) := by decide +kernel
theorem d7_9 : decode method_5_code 9 = .ok (.iconst 2, 1) := by decide +kernel
theorem d7_10 : decode method_5_code 10 = .ok (.iconst 3, 1) := by decide +kernel
theorem d7_11 : decode method_5_code 11 = .ok (.invokestatic 14, 3) := by decide +kernel
theorem d7_14 : decode method_5_code 14 = .ok (.aload_n 0, 1) := by decide +kernel
theorem d7_15 : decode method_5_code 15 = .ok (.aload_n 1, 1) := by decide +kernel
theorem d7_16 : decode method_5_code 16 = .ok (.iconst 4, 1) := by decide +kernel
theorem d7_17 : decode method_5_code 17 = .ok (.iconst 5, 1) := by decide +kernel
theorem d7_18 : decode method_5_code 18 = .ok (.invokestatic 14, 3) := by decide +kernel
theorem d7_21 : decode method_5_code 21 = .ok (.return_, 1) := by decide +kernel
theorem pn7 : plainFor (⟨"com/example/bare_triage/baretriage/rank/TurnsTakePinLaw", "even", "([I[I)V"⟩ : MethodName) = true := plainFor_of_name (by first | (simp [plainName, overriddenIn]; done) | decide +kernel)
theorem pd7 : parseMethodDescriptor "([I[I)V" = some ⟨[(.array .int), (.array .int)], none⟩ := by decide +kernel
set_option maxRecDepth 65536 in
set_option maxHeartbeats 40000000 in
theorem rm7 (l : Launch) (Z : State) (a0 : Array Value) (hw : ∀ d ∈ tables_1, d.before a0 Z = true) (a1 : Addr) (a2 : Addr) (r0 r1 r2 r3 r4 r5 q0 q1 q2 q3 q4 q5 : Int32) (h0 : Heap) (n0 : Nat) (Z0 : n0 ≤ h0.size) (A_a1 : oA .int Z h0 a1 [(.int r0), (.int r1), (.int r2), (.int r3), (.int r4), (.int r5)]) (A_a2 : oA .int Z h0 a2 [(.int q0), (.int q1), (.int q2), (.int q3), (.int q4), (.int q5)]) (ne : a1 ≠ a2) (g_a1 : n0 ≤ a1) (g_a2 : n0 ≤ a2) (in0 : own_in r0 q0) (in1 : own_in r1 q1) (in2 : own_in r2 q2) (in3 : own_in r3 q3) (in4 : own_in r4 q4) (in5 : own_in r5 q5) :
    oC l Z n0 (⟨"com/example/bare_triage/baretriage/rank/TurnsTakePinLaw", "even", "([I[I)V"⟩ : MethodName) method_5_code 2 none ({ frames := 1, cells := 0, slots := 0, locals := 17 } : Room) 0 0 #[(.ref a1), (.ref a2)] h0 (fun v h => v = none ∧ Keep h0 h [a1, a2] ∧ ∃ R0 R1 R2 R3 R4 R5 Q0 Q1 Q2 Q3 Q4 Q5 : Int32, oA .int Z h a1 [(.int R0), (.int R1), (.int R2), (.int R3), (.int R4), (.int R5)] ∧ oA .int Z h a2 [(.int Q0), (.int Q1), (.int Q2), (.int Q3), (.int Q4), (.int Q5)] ∧ own_in R0 Q0 ∧ own_in R1 Q1 ∧ own_in R2 Q2 ∧ own_in R3 Q3 ∧ own_in R4 Q4 ∧ own_in R5 Q5 ∧ own_K R0 Q0 = min (own_K r0 q0) (own_K r1 q1) ∧ own_K R1 Q1 = max (own_K r0 q0) (own_K r1 q1) ∧ own_K R2 Q2 = min (own_K r2 q2) (own_K r3 q3) ∧ own_K R3 Q3 = max (own_K r2 q2) (own_K r3 q3) ∧ own_K R4 Q4 = min (own_K r4 q4) (own_K r5 q5) ∧ own_K R5 Q5 = max (own_K r4 q4) (own_K r5 q5)) := by
  refine oC.of (L := #[.val (.ref a1), .val (.ref a2)]) pn7 Z0 (fun m => by first | (simp [entryFrame, mkF, argsToLocals, Value.category]; done) | rfl) ?_
  intro p e s m below meth c T H
  refine o_aloadN H rfl rfl d7_0 rfl ?_
  refine o_aloadN H rfl rfl d7_1 rfl ?_
  refine o_iconst H (0 : Int32) rfl d7_2 rfl ?_
  refine o_iconst H (1 : Int32) rfl d7_3 rfl ?_
  refine o_static H [(.ref a1), (.ref a2), (.int (0 : Int32)), (.int (1 : Int32))] [] (rm8_01 l Z a0 hw a1 a2 r0 r1 r2 r3 r4 r5 q0 q1 q2 q3 q4 q5 h0 n0 H.le A_a1 A_a2 ne g_a1 g_a2 in0 in1) (w35 hw) (w36 hw) (w3 hw) (w37 hw) (by decide) (lenOf pd8 rfl) rfl rfl (by decide) (Nat.le_of_ble_eq_true rfl) (by decide) (by decide) d7_4 rfl ?_
  intro T1 v1 h1 H1 q1
  obtain ⟨rfl, K1, ri1, rj1, qi1, qj1, A1, C1, i1, j1, m1, n1⟩ := q1
  have k2 := (Keep.refl h0 [a1, a2]).trans K1 (allS (Or.inl (by simp)) (allS (Or.inl (by simp)) all0))
  show oG p e below s n0 _ _ _ (T1.setTop (mkF m 7 #[.val (.ref a1), .val (.ref a2)] []))
  refine o_aloadN H1 rfl rfl d7_7 rfl ?_
  refine o_aloadN H1 rfl rfl d7_8 rfl ?_
  refine o_iconst H1 (2 : Int32) rfl d7_9 rfl ?_
  refine o_iconst H1 (3 : Int32) rfl d7_10 rfl ?_
  refine o_static H1 [(.ref a1), (.ref a2), (.int (2 : Int32)), (.int (3 : Int32))] [] (rm8_23 l Z a0 hw a1 a2 ri1 rj1 r2 r3 r4 r5 qi1 qj1 q2 q3 q4 q5 h1 n0 H1.le A1 C1 ne g_a1 g_a2 in2 in3) (w35 hw) (w36 hw) (w3 hw) (w37 hw) (by decide) (lenOf pd8 rfl) rfl rfl (by decide) (Nat.le_of_ble_eq_true rfl) (by decide) (by decide) d7_11 rfl ?_
  intro T3 v3 h3 H3 q3
  obtain ⟨rfl, K3, ri3, rj3, qi3, qj3, A3, C3, i3, j3, m3, n3⟩ := q3
  have k4 := k2.trans K3 (allS (Or.inl (by simp)) (allS (Or.inl (by simp)) all0))
  show oG p e below s n0 _ _ _ (T3.setTop (mkF m 14 #[.val (.ref a1), .val (.ref a2)] []))
  refine o_aloadN H3 rfl rfl d7_14 rfl ?_
  refine o_aloadN H3 rfl rfl d7_15 rfl ?_
  refine o_iconst H3 (4 : Int32) rfl d7_16 rfl ?_
  refine o_iconst H3 (5 : Int32) rfl d7_17 rfl ?_
  refine o_static H3 [(.ref a1), (.ref a2), (.int (4 : Int32)), (.int (5 : Int32))] [] (rm8_45 l Z a0 hw a1 a2 ri1 rj1 ri3 rj3 r4 r5 qi1 qj1 qi3 qj3 q4 q5 h3 n0 H3.le A3 C3 ne g_a1 g_a2 in4 in5) (w35 hw) (w36 hw) (w3 hw) (w37 hw) (by decide) (lenOf pd8 rfl) rfl rfl (by decide) (Nat.le_of_ble_eq_true rfl) (by decide) (by decide) d7_18 rfl ?_
  intro T5 v5 h5 H5 q5
  obtain ⟨rfl, K5, ri5, rj5, qi5, qj5, A5, C5, i5, j5, m5, n5⟩ := q5
  have k6 := k4.trans K5 (allS (Or.inl (by simp)) (allS (Or.inl (by simp)) all0))
  show oG p e below s n0 _ _ _ (T5.setTop (mkF m 21 #[.val (.ref a1), .val (.ref a2)] []))
  exact o_return H5 rfl d7_21 (by decide) (by decide) ⟨rfl, k6, _, _, _, _, _, _, _, _, _, _, _, _, A5, C5, i1, j1, i3, j3, i5, j5, m1, n1, m3, n3, m5, n5⟩
theorem d9_0 : decode method_6_code 0 = .ok (.aload_n 0, 1) := by decide +kernel
theorem d9_1 : decode method_6_code 1 = .ok (.aload_n 1, 1) := by decide +kernel
theorem d9_2 : decode method_6_code 2 = .ok (.iconst 1, 1) := by decide +kernel
theorem d9_3 : decode method_6_code 3 = .ok (.iconst 2, 1) := by decide +kernel
theorem d9_4 : decode method_6_code 4 = .ok (.invokestatic 14, 3) := by decide +kernel
theorem d9_7 : decode method_6_code 7 = .ok (.aload_n 0, 1) := by decide +kernel
theorem d9_8 : decode method_6_code 8 = .ok (.aload_n 1, 1) := by decide +kernel
theorem d9_9 : decode method_6_code 9 = .ok (.iconst 3, 1) := by decide +kernel
theorem d9_10 : decode method_6_code 10 = .ok (.iconst 4, 1) := by decide +kernel
theorem d9_11 : decode method_6_code 11 = .ok (.invokestatic 14, 3) := by decide +kernel
theorem d9_14 : decode method_6_code 14 = .ok (.return_, 1) := by decide +kernel
theorem pn9 : plainFor (⟨"com/example/bare_triage/baretriage/rank/TurnsTakePinLaw", "odd", "([I[I)V"⟩ : MethodName) = true := plainFor_of_name (by first | (simp [plainName, overriddenIn]; done) | decide +kernel)
theorem pd9 : parseMethodDescriptor "([I[I)V" = some ⟨[(.array .int), (.array .int)], none⟩ := by decide +kernel
set_option maxRecDepth 65536 in
set_option maxHeartbeats 40000000 in
theorem rm9 (l : Launch) (Z : State) (a0 : Array Value) (hw : ∀ d ∈ tables_1, d.before a0 Z = true) (a1 : Addr) (a2 : Addr) (r0 r1 r2 r3 r4 r5 q0 q1 q2 q3 q4 q5 : Int32) (h0 : Heap) (n0 : Nat) (Z0 : n0 ≤ h0.size) (A_a1 : oA .int Z h0 a1 [(.int r0), (.int r1), (.int r2), (.int r3), (.int r4), (.int r5)]) (A_a2 : oA .int Z h0 a2 [(.int q0), (.int q1), (.int q2), (.int q3), (.int q4), (.int q5)]) (ne : a1 ≠ a2) (g_a1 : n0 ≤ a1) (g_a2 : n0 ≤ a2) (in0 : own_in r0 q0) (in1 : own_in r1 q1) (in2 : own_in r2 q2) (in3 : own_in r3 q3) (in4 : own_in r4 q4) (in5 : own_in r5 q5) :
    oC l Z n0 (⟨"com/example/bare_triage/baretriage/rank/TurnsTakePinLaw", "odd", "([I[I)V"⟩ : MethodName) method_6_code 2 none ({ frames := 1, cells := 0, slots := 0, locals := 17 } : Room) 0 0 #[(.ref a1), (.ref a2)] h0 (fun v h => v = none ∧ Keep h0 h [a1, a2] ∧ ∃ R1 R2 R3 R4 Q1 Q2 Q3 Q4 : Int32, oA .int Z h a1 [(.int r0), (.int R1), (.int R2), (.int R3), (.int R4), (.int r5)] ∧ oA .int Z h a2 [(.int q0), (.int Q1), (.int Q2), (.int Q3), (.int Q4), (.int q5)] ∧ own_in R1 Q1 ∧ own_in R2 Q2 ∧ own_in R3 Q3 ∧ own_in R4 Q4 ∧ own_K R1 Q1 = min (own_K r1 q1) (own_K r2 q2) ∧ own_K R2 Q2 = max (own_K r1 q1) (own_K r2 q2) ∧ own_K R3 Q3 = min (own_K r3 q3) (own_K r4 q4) ∧ own_K R4 Q4 = max (own_K r3 q3) (own_K r4 q4)) := by
  refine oC.of (L := #[.val (.ref a1), .val (.ref a2)]) pn9 Z0 (fun m => by first | (simp [entryFrame, mkF, argsToLocals, Value.category]; done) | rfl) ?_
  intro p e s m below meth c T H
  refine o_aloadN H rfl rfl d9_0 rfl ?_
  refine o_aloadN H rfl rfl d9_1 rfl ?_
  refine o_iconst H (1 : Int32) rfl d9_2 rfl ?_
  refine o_iconst H (2 : Int32) rfl d9_3 rfl ?_
  refine o_static H [(.ref a1), (.ref a2), (.int (1 : Int32)), (.int (2 : Int32))] [] (rm8_12 l Z a0 hw a1 a2 r0 r1 r2 r3 r4 r5 q0 q1 q2 q3 q4 q5 h0 n0 H.le A_a1 A_a2 ne g_a1 g_a2 in1 in2) (w35 hw) (w36 hw) (w3 hw) (w37 hw) (by decide) (lenOf pd8 rfl) rfl rfl (by decide) (Nat.le_of_ble_eq_true rfl) (by decide) (by decide) d9_4 rfl ?_
  intro T1 v1 h1 H1 q1
  obtain ⟨rfl, K1, ri1, rj1, qi1, qj1, A1, C1, i1, j1, m1, n1⟩ := q1
  have k2 := (Keep.refl h0 [a1, a2]).trans K1 (allS (Or.inl (by simp)) (allS (Or.inl (by simp)) all0))
  show oG p e below s n0 _ _ _ (T1.setTop (mkF m 7 #[.val (.ref a1), .val (.ref a2)] []))
  refine o_aloadN H1 rfl rfl d9_7 rfl ?_
  refine o_aloadN H1 rfl rfl d9_8 rfl ?_
  refine o_iconst H1 (3 : Int32) rfl d9_9 rfl ?_
  refine o_iconst H1 (4 : Int32) rfl d9_10 rfl ?_
  refine o_static H1 [(.ref a1), (.ref a2), (.int (3 : Int32)), (.int (4 : Int32))] [] (rm8_34 l Z a0 hw a1 a2 r0 ri1 rj1 r3 r4 r5 q0 qi1 qj1 q3 q4 q5 h1 n0 H1.le A1 C1 ne g_a1 g_a2 in3 in4) (w35 hw) (w36 hw) (w3 hw) (w37 hw) (by decide) (lenOf pd8 rfl) rfl rfl (by decide) (Nat.le_of_ble_eq_true rfl) (by decide) (by decide) d9_11 rfl ?_
  intro T3 v3 h3 H3 q3
  obtain ⟨rfl, K3, ri3, rj3, qi3, qj3, A3, C3, i3, j3, m3, n3⟩ := q3
  have k4 := k2.trans K3 (allS (Or.inl (by simp)) (allS (Or.inl (by simp)) all0))
  show oG p e below s n0 _ _ _ (T3.setTop (mkF m 14 #[.val (.ref a1), .val (.ref a2)] []))
  exact o_return H3 rfl d9_14 (by decide) (by decide) ⟨rfl, k4, _, _, _, _, _, _, _, _, A3, C3, i1, j1, i3, j3, m1, n1, m3, n3⟩
theorem pn0 : plainFor x = true := plainFor_of_name (by first | (simp [plainName, overriddenIn]; done) | decide +kernel)
set_option maxRecDepth 65536 in
set_option maxHeartbeats 40000000 in
theorem rm0 (l : Launch) (Z : State) (a0 : Array Value) (hw : ∀ d ∈ tables_1, d.before a0 Z = true) (p1 : Int64) (p2 : Int64) (p3 : Int64) (p4 : Int64) (p5 : Int64) (p6 : Int64)  (h0 : Heap) (n0 : Nat) (Z0 : n0 ≤ h0.size)  :
    oC l Z n0 x code maxLocals ret room_1 16 128 #[(.long p1), (.long p2), (.long p3), (.long p4), (.long p5), (.long p6)] h0 (fun v h => v = some (.int 1)) := by
  refine oC.of (L := #[.val (.long p1), .second, .val (.long p2), .second, .val (.long p3), .second, .val (.long p4), .second, .val (.long p5), .second, .val (.long p6), .second, .unset, .unset, .unset, .unset]) pn0 Z0 (fun m => by first | (simp [entryFrame, mkF, argsToLocals, Value.category, maxLocals]; done) | rfl) ?_
  intro p e s m below meth c T H
  refine o_bipush H (6 : Int32) rfl at_0 rfl ?_
  refine o_newarr (aty := .int) H 6 6 (w0 hw) (by decide) (by decide) (by decide) at_2 rfl (by decide) (by decide) ?_
  intro T1 h1 b1 g1 H1 E1 A1
  have z1 : n0 ≤ b1 := by rw [g1]; exact H.le
  have f2 : oA .int Z h1 b1 [(.int 0), (.int 0), (.int 0), (.int 0), (.int 0), (.int 0)] := A1
  refine o_astore H1 (L' := #[.val (.long p1), .second, .val (.long p2), .second, .val (.long p3), .second, .val (.long p4), .second, .val (.long p5), .second, .val (.long p6), .second, .val (.ref b1), .unset, .unset, .unset]) rfl rfl at_4 rfl ?_
  refine o_bipush H1 (6 : Int32) rfl at_6 rfl ?_
  refine o_newarr (aty := .int) H1 6 6 (w0 hw) (by decide) (by decide) (by decide) at_8 rfl (by decide) (by decide) ?_
  intro T3 h3 b3 g3 H3 E3 A3
  have ne3_b1 : b1 ≠ b3 := by rw [g3]; exact Nat.ne_of_lt (f2).lt
  have z3 : n0 ≤ b3 := by rw [g3]; exact H1.le
  have f4 := f2.ext E3
  have f5 : oA .int Z h3 b3 [(.int 0), (.int 0), (.int 0), (.int 0), (.int 0), (.int 0)] := A3
  refine o_astore H3 (L' := #[.val (.long p1), .second, .val (.long p2), .second, .val (.long p3), .second, .val (.long p4), .second, .val (.long p5), .second, .val (.long p6), .second, .val (.ref b1), .val (.ref b3), .unset, .unset]) rfl rfl at_10 rfl ?_
  refine o_aload H3 rfl rfl at_12 rfl ?_
  refine o_iconst H3 (0 : Int32) rfl at_14 rfl ?_
  refine o_lloadN H3 rfl at_15 rfl ?_
  refine o_static H3 [(.long p1)] [(.int (0 : Int32)), (.ref b1)] (rm1 l Z a0 hw p1 h3 n0 H3.le) (w1 hw) (w2 hw) (w3 hw) (w4 hw) (by decide) (lenOf pd1 rfl) rfl rfl (by decide) (Nat.le_of_ble_eq_true rfl) (by decide) (by decide) at_16 rfl ?_
  intro T6 v6 h6 H6 q6
  obtain ⟨rfl, rfl⟩ := q6
  show oG p e below s n0 _ _ _ (T6.setTop (mkF m 19 #[.val (.long p1), .second, .val (.long p2), .second, .val (.long p3), .second, .val (.long p4), .second, .val (.long p5), .second, .val (.long p6), .second, .val (.ref b1), .val (.ref b3), .unset, .unset] [(.int (own_rd p1)), (.int (0 : Int32)), (.ref b1)]))
  refine o_iastore H6 0 f4 (by decide) (Nat.le_of_ble_eq_true rfl) z1 at_19 rfl ?_
  intro T7 h7 H7 W7 A7
  have f8 := f5.other W7 (Ne.symm ne3_b1)
  have f9 : oA .int Z h7 b1 [(.int (own_rd p1)), (.int 0), (.int 0), (.int 0), (.int 0), (.int 0)] := A7
  refine o_aload H7 rfl rfl at_20 rfl ?_
  refine o_iconst H7 (0 : Int32) rfl at_22 rfl ?_
  refine o_lloadN H7 rfl at_23 rfl ?_
  refine o_static H7 [(.long p1)] [(.int (0 : Int32)), (.ref b3)] (rm3 l Z a0 hw p1 h7 n0 H7.le) (w10 hw) (w11 hw) (w3 hw) (w12 hw) (by decide) (lenOf pd3 rfl) rfl rfl (by decide) (Nat.le_of_ble_eq_true rfl) (by decide) (by decide) at_24 rfl ?_
  intro T10 v10 h10 H10 q10
  obtain ⟨rfl, rfl⟩ := q10
  show oG p e below s n0 _ _ _ (T10.setTop (mkF m 27 #[.val (.long p1), .second, .val (.long p2), .second, .val (.long p3), .second, .val (.long p4), .second, .val (.long p5), .second, .val (.long p6), .second, .val (.ref b1), .val (.ref b3), .unset, .unset] [(.int (own_ps p1)), (.int (0 : Int32)), (.ref b3)]))
  refine o_iastore H10 0 f8 (by decide) (Nat.le_of_ble_eq_true rfl) z3 at_27 rfl ?_
  intro T11 h11 H11 W11 A11
  have f12 := f9.other W11 ne3_b1
  have f13 : oA .int Z h11 b3 [(.int (own_ps p1)), (.int 0), (.int 0), (.int 0), (.int 0), (.int 0)] := A11
  refine o_aload H11 rfl rfl at_28 rfl ?_
  refine o_iconst H11 (1 : Int32) rfl at_30 rfl ?_
  refine o_lloadN H11 rfl at_31 rfl ?_
  refine o_static H11 [(.long p2)] [(.int (1 : Int32)), (.ref b1)] (rm1 l Z a0 hw p2 h11 n0 H11.le) (w1 hw) (w2 hw) (w3 hw) (w4 hw) (by decide) (lenOf pd1 rfl) rfl rfl (by decide) (Nat.le_of_ble_eq_true rfl) (by decide) (by decide) at_32 rfl ?_
  intro T14 v14 h14 H14 q14
  obtain ⟨rfl, rfl⟩ := q14
  show oG p e below s n0 _ _ _ (T14.setTop (mkF m 35 #[.val (.long p1), .second, .val (.long p2), .second, .val (.long p3), .second, .val (.long p4), .second, .val (.long p5), .second, .val (.long p6), .second, .val (.ref b1), .val (.ref b3), .unset, .unset] [(.int (own_rd p2)), (.int (1 : Int32)), (.ref b1)]))
  refine o_iastore H14 1 f12 (by decide) (Nat.le_of_ble_eq_true rfl) z1 at_35 rfl ?_
  intro T15 h15 H15 W15 A15
  have f16 := f13.other W15 (Ne.symm ne3_b1)
  have f17 : oA .int Z h15 b1 [(.int (own_rd p1)), (.int (own_rd p2)), (.int 0), (.int 0), (.int 0), (.int 0)] := A15
  refine o_aload H15 rfl rfl at_36 rfl ?_
  refine o_iconst H15 (1 : Int32) rfl at_38 rfl ?_
  refine o_lloadN H15 rfl at_39 rfl ?_
  refine o_static H15 [(.long p2)] [(.int (1 : Int32)), (.ref b3)] (rm3 l Z a0 hw p2 h15 n0 H15.le) (w10 hw) (w11 hw) (w3 hw) (w12 hw) (by decide) (lenOf pd3 rfl) rfl rfl (by decide) (Nat.le_of_ble_eq_true rfl) (by decide) (by decide) at_40 rfl ?_
  intro T18 v18 h18 H18 q18
  obtain ⟨rfl, rfl⟩ := q18
  show oG p e below s n0 _ _ _ (T18.setTop (mkF m 43 #[.val (.long p1), .second, .val (.long p2), .second, .val (.long p3), .second, .val (.long p4), .second, .val (.long p5), .second, .val (.long p6), .second, .val (.ref b1), .val (.ref b3), .unset, .unset] [(.int (own_ps p2)), (.int (1 : Int32)), (.ref b3)]))
  refine o_iastore H18 1 f16 (by decide) (Nat.le_of_ble_eq_true rfl) z3 at_43 rfl ?_
  intro T19 h19 H19 W19 A19
  have f20 := f17.other W19 ne3_b1
  have f21 : oA .int Z h19 b3 [(.int (own_ps p1)), (.int (own_ps p2)), (.int 0), (.int 0), (.int 0), (.int 0)] := A19
  refine o_aload H19 rfl rfl at_44 rfl ?_
  refine o_iconst H19 (2 : Int32) rfl at_46 rfl ?_
  refine o_lload H19 rfl at_47 rfl ?_
  refine o_static H19 [(.long p3)] [(.int (2 : Int32)), (.ref b1)] (rm1 l Z a0 hw p3 h19 n0 H19.le) (w1 hw) (w2 hw) (w3 hw) (w4 hw) (by decide) (lenOf pd1 rfl) rfl rfl (by decide) (Nat.le_of_ble_eq_true rfl) (by decide) (by decide) at_49 rfl ?_
  intro T22 v22 h22 H22 q22
  obtain ⟨rfl, rfl⟩ := q22
  show oG p e below s n0 _ _ _ (T22.setTop (mkF m 52 #[.val (.long p1), .second, .val (.long p2), .second, .val (.long p3), .second, .val (.long p4), .second, .val (.long p5), .second, .val (.long p6), .second, .val (.ref b1), .val (.ref b3), .unset, .unset] [(.int (own_rd p3)), (.int (2 : Int32)), (.ref b1)]))
  refine o_iastore H22 2 f20 (by decide) (Nat.le_of_ble_eq_true rfl) z1 at_52 rfl ?_
  intro T23 h23 H23 W23 A23
  have f24 := f21.other W23 (Ne.symm ne3_b1)
  have f25 : oA .int Z h23 b1 [(.int (own_rd p1)), (.int (own_rd p2)), (.int (own_rd p3)), (.int 0), (.int 0), (.int 0)] := A23
  refine o_aload H23 rfl rfl at_53 rfl ?_
  refine o_iconst H23 (2 : Int32) rfl at_55 rfl ?_
  refine o_lload H23 rfl at_56 rfl ?_
  refine o_static H23 [(.long p3)] [(.int (2 : Int32)), (.ref b3)] (rm3 l Z a0 hw p3 h23 n0 H23.le) (w10 hw) (w11 hw) (w3 hw) (w12 hw) (by decide) (lenOf pd3 rfl) rfl rfl (by decide) (Nat.le_of_ble_eq_true rfl) (by decide) (by decide) at_58 rfl ?_
  intro T26 v26 h26 H26 q26
  obtain ⟨rfl, rfl⟩ := q26
  show oG p e below s n0 _ _ _ (T26.setTop (mkF m 61 #[.val (.long p1), .second, .val (.long p2), .second, .val (.long p3), .second, .val (.long p4), .second, .val (.long p5), .second, .val (.long p6), .second, .val (.ref b1), .val (.ref b3), .unset, .unset] [(.int (own_ps p3)), (.int (2 : Int32)), (.ref b3)]))
  refine o_iastore H26 2 f24 (by decide) (Nat.le_of_ble_eq_true rfl) z3 at_61 rfl ?_
  intro T27 h27 H27 W27 A27
  have f28 := f25.other W27 ne3_b1
  have f29 : oA .int Z h27 b3 [(.int (own_ps p1)), (.int (own_ps p2)), (.int (own_ps p3)), (.int 0), (.int 0), (.int 0)] := A27
  refine o_aload H27 rfl rfl at_62 rfl ?_
  refine o_iconst H27 (3 : Int32) rfl at_64 rfl ?_
  refine o_lload H27 rfl at_65 rfl ?_
  refine o_static H27 [(.long p4)] [(.int (3 : Int32)), (.ref b1)] (rm1 l Z a0 hw p4 h27 n0 H27.le) (w1 hw) (w2 hw) (w3 hw) (w4 hw) (by decide) (lenOf pd1 rfl) rfl rfl (by decide) (Nat.le_of_ble_eq_true rfl) (by decide) (by decide) at_67 rfl ?_
  intro T30 v30 h30 H30 q30
  obtain ⟨rfl, rfl⟩ := q30
  show oG p e below s n0 _ _ _ (T30.setTop (mkF m 70 #[.val (.long p1), .second, .val (.long p2), .second, .val (.long p3), .second, .val (.long p4), .second, .val (.long p5), .second, .val (.long p6), .second, .val (.ref b1), .val (.ref b3), .unset, .unset] [(.int (own_rd p4)), (.int (3 : Int32)), (.ref b1)]))
  refine o_iastore H30 3 f28 (by decide) (Nat.le_of_ble_eq_true rfl) z1 at_70 rfl ?_
  intro T31 h31 H31 W31 A31
  have f32 := f29.other W31 (Ne.symm ne3_b1)
  have f33 : oA .int Z h31 b1 [(.int (own_rd p1)), (.int (own_rd p2)), (.int (own_rd p3)), (.int (own_rd p4)), (.int 0), (.int 0)] := A31
  refine o_aload H31 rfl rfl at_71 rfl ?_
  refine o_iconst H31 (3 : Int32) rfl at_73 rfl ?_
  refine o_lload H31 rfl at_74 rfl ?_
  refine o_static H31 [(.long p4)] [(.int (3 : Int32)), (.ref b3)] (rm3 l Z a0 hw p4 h31 n0 H31.le) (w10 hw) (w11 hw) (w3 hw) (w12 hw) (by decide) (lenOf pd3 rfl) rfl rfl (by decide) (Nat.le_of_ble_eq_true rfl) (by decide) (by decide) at_76 rfl ?_
  intro T34 v34 h34 H34 q34
  obtain ⟨rfl, rfl⟩ := q34
  show oG p e below s n0 _ _ _ (T34.setTop (mkF m 79 #[.val (.long p1), .second, .val (.long p2), .second, .val (.long p3), .second, .val (.long p4), .second, .val (.long p5), .second, .val (.long p6), .second, .val (.ref b1), .val (.ref b3), .unset, .unset] [(.int (own_ps p4)), (.int (3 : Int32)), (.ref b3)]))
  refine o_iastore H34 3 f32 (by decide) (Nat.le_of_ble_eq_true rfl) z3 at_79 rfl ?_
  intro T35 h35 H35 W35 A35
  have f36 := f33.other W35 ne3_b1
  have f37 : oA .int Z h35 b3 [(.int (own_ps p1)), (.int (own_ps p2)), (.int (own_ps p3)), (.int (own_ps p4)), (.int 0), (.int 0)] := A35
  refine o_aload H35 rfl rfl at_80 rfl ?_
  refine o_iconst H35 (4 : Int32) rfl at_82 rfl ?_
  refine o_lload H35 rfl at_83 rfl ?_
  refine o_static H35 [(.long p5)] [(.int (4 : Int32)), (.ref b1)] (rm1 l Z a0 hw p5 h35 n0 H35.le) (w1 hw) (w2 hw) (w3 hw) (w4 hw) (by decide) (lenOf pd1 rfl) rfl rfl (by decide) (Nat.le_of_ble_eq_true rfl) (by decide) (by decide) at_85 rfl ?_
  intro T38 v38 h38 H38 q38
  obtain ⟨rfl, rfl⟩ := q38
  show oG p e below s n0 _ _ _ (T38.setTop (mkF m 88 #[.val (.long p1), .second, .val (.long p2), .second, .val (.long p3), .second, .val (.long p4), .second, .val (.long p5), .second, .val (.long p6), .second, .val (.ref b1), .val (.ref b3), .unset, .unset] [(.int (own_rd p5)), (.int (4 : Int32)), (.ref b1)]))
  refine o_iastore H38 4 f36 (by decide) (Nat.le_of_ble_eq_true rfl) z1 at_88 rfl ?_
  intro T39 h39 H39 W39 A39
  have f40 := f37.other W39 (Ne.symm ne3_b1)
  have f41 : oA .int Z h39 b1 [(.int (own_rd p1)), (.int (own_rd p2)), (.int (own_rd p3)), (.int (own_rd p4)), (.int (own_rd p5)), (.int 0)] := A39
  refine o_aload H39 rfl rfl at_89 rfl ?_
  refine o_iconst H39 (4 : Int32) rfl at_91 rfl ?_
  refine o_lload H39 rfl at_92 rfl ?_
  refine o_static H39 [(.long p5)] [(.int (4 : Int32)), (.ref b3)] (rm3 l Z a0 hw p5 h39 n0 H39.le) (w10 hw) (w11 hw) (w3 hw) (w12 hw) (by decide) (lenOf pd3 rfl) rfl rfl (by decide) (Nat.le_of_ble_eq_true rfl) (by decide) (by decide) at_94 rfl ?_
  intro T42 v42 h42 H42 q42
  obtain ⟨rfl, rfl⟩ := q42
  show oG p e below s n0 _ _ _ (T42.setTop (mkF m 97 #[.val (.long p1), .second, .val (.long p2), .second, .val (.long p3), .second, .val (.long p4), .second, .val (.long p5), .second, .val (.long p6), .second, .val (.ref b1), .val (.ref b3), .unset, .unset] [(.int (own_ps p5)), (.int (4 : Int32)), (.ref b3)]))
  refine o_iastore H42 4 f40 (by decide) (Nat.le_of_ble_eq_true rfl) z3 at_97 rfl ?_
  intro T43 h43 H43 W43 A43
  have f44 := f41.other W43 ne3_b1
  have f45 : oA .int Z h43 b3 [(.int (own_ps p1)), (.int (own_ps p2)), (.int (own_ps p3)), (.int (own_ps p4)), (.int (own_ps p5)), (.int 0)] := A43
  refine o_aload H43 rfl rfl at_98 rfl ?_
  refine o_iconst H43 (5 : Int32) rfl at_100 rfl ?_
  refine o_lload H43 rfl at_101 rfl ?_
  refine o_static H43 [(.long p6)] [(.int (5 : Int32)), (.ref b1)] (rm1 l Z a0 hw p6 h43 n0 H43.le) (w1 hw) (w2 hw) (w3 hw) (w4 hw) (by decide) (lenOf pd1 rfl) rfl rfl (by decide) (Nat.le_of_ble_eq_true rfl) (by decide) (by decide) at_103 rfl ?_
  intro T46 v46 h46 H46 q46
  obtain ⟨rfl, rfl⟩ := q46
  show oG p e below s n0 _ _ _ (T46.setTop (mkF m 106 #[.val (.long p1), .second, .val (.long p2), .second, .val (.long p3), .second, .val (.long p4), .second, .val (.long p5), .second, .val (.long p6), .second, .val (.ref b1), .val (.ref b3), .unset, .unset] [(.int (own_rd p6)), (.int (5 : Int32)), (.ref b1)]))
  refine o_iastore H46 5 f44 (by decide) (Nat.le_of_ble_eq_true rfl) z1 at_106 rfl ?_
  intro T47 h47 H47 W47 A47
  have f48 := f45.other W47 (Ne.symm ne3_b1)
  have f49 : oA .int Z h47 b1 [(.int (own_rd p1)), (.int (own_rd p2)), (.int (own_rd p3)), (.int (own_rd p4)), (.int (own_rd p5)), (.int (own_rd p6))] := A47
  refine o_aload H47 rfl rfl at_107 rfl ?_
  refine o_iconst H47 (5 : Int32) rfl at_109 rfl ?_
  refine o_lload H47 rfl at_110 rfl ?_
  refine o_static H47 [(.long p6)] [(.int (5 : Int32)), (.ref b3)] (rm3 l Z a0 hw p6 h47 n0 H47.le) (w10 hw) (w11 hw) (w3 hw) (w12 hw) (by decide) (lenOf pd3 rfl) rfl rfl (by decide) (Nat.le_of_ble_eq_true rfl) (by decide) (by decide) at_112 rfl ?_
  intro T50 v50 h50 H50 q50
  obtain ⟨rfl, rfl⟩ := q50
  show oG p e below s n0 _ _ _ (T50.setTop (mkF m 115 #[.val (.long p1), .second, .val (.long p2), .second, .val (.long p3), .second, .val (.long p4), .second, .val (.long p5), .second, .val (.long p6), .second, .val (.ref b1), .val (.ref b3), .unset, .unset] [(.int (own_ps p6)), (.int (5 : Int32)), (.ref b3)]))
  refine o_iastore H50 5 f48 (by decide) (Nat.le_of_ble_eq_true rfl) z3 at_115 rfl ?_
  intro T51 h51 H51 W51 A51
  have f52 := f49.other W51 ne3_b1
  have f53 : oA .int Z h51 b3 [(.int (own_ps p1)), (.int (own_ps p2)), (.int (own_ps p3)), (.int (own_ps p4)), (.int (own_ps p5)), (.int (own_ps p6))] := A51
  have in0 : own_in (own_rd p1) (own_ps p1) := own_rd_in p1 p1
  have in1 : own_in (own_rd p2) (own_ps p2) := own_rd_in p2 p2
  have in2 : own_in (own_rd p3) (own_ps p3) := own_rd_in p3 p3
  have in3 : own_in (own_rd p4) (own_ps p4) := own_rd_in p4 p4
  have in4 : own_in (own_rd p5) (own_ps p5) := own_rd_in p5 p5
  have in5 : own_in (own_rd p6) (own_ps p6) := own_rd_in p6 p6
  refine o_new H51 (w13 hw) (w14 hw) (w15 hw) at_116 rfl (by decide) (by decide) ?_
  intro T54 h54 b54 g54 H54 E54 A54 D54
  have ne54_b1 : b1 ≠ b54 := by rw [g54]; exact Nat.ne_of_lt (f52).lt
  have ne54_b3 : b3 ≠ b54 := by rw [g54]; exact Nat.ne_of_lt (f53).lt
  have z54 : n0 ≤ b54 := by rw [g54]; exact H51.le
  have f55 := f52.ext E54
  have f56 := f53.ext E54
  have f57 : Fld Z h54 b54 "com/example/bare_triage/baretriage/rank/Turns" "waiting" "[J" .null := D54 (Or.inl (w24 hw)) (ty := (.array .long)) (by decide)
  have f58 : Fld Z h54 b54 "com/example/bare_triage/baretriage/rank/Turns" "count" "I" (.int (0 : Int32)) := D54 (Or.inl (w31 hw)) (ty := .int) (by decide)
  have f59 : Fld Z h54 b54 "com/example/bare_triage/baretriage/rank/Turns" "round" "I" (.int (0 : Int32)) := D54 (Or.inl (w50 hw)) (ty := .int) (by decide)
  refine o_dup H54 rfl at_119 rfl ?_
  refine o_special H54 [] [(.ref b54)] (rm4 l Z a0 hw b54 h54 n0 H54.le A54 z54 f57 f58 f59) rfl (w16 hw) (w17 hw) (w15 hw) (w18 hw) (by decide) (lenOf pd4 rfl) rfl rfl (by decide) (Nat.le_of_ble_eq_true rfl) (by decide) (by decide) at_120 rfl ?_
  intro T60 v60 h60 H60 q60
  obtain ⟨rfl, K60, wt, B60, Fw60, Fc60, Fr60, A60⟩ := q60
  have neb_b1 : b1 ≠ wt := Nat.ne_of_lt (Nat.lt_of_lt_of_le (f55).lt B60)
  have neb_b3 : b3 ≠ wt := Nat.ne_of_lt (Nat.lt_of_lt_of_le (f56).lt B60)
  have neb_b54 : b54 ≠ wt := Nat.ne_of_lt (Nat.lt_of_lt_of_le (A54).lt B60)
  have z_wt : n0 ≤ wt := Nat.le_trans H54.le B60
  have f61 := f55.keep K60 (ninS ne54_b1 nin0)
  have f62 := f56.keep K60 (ninS ne54_b3 nin0)
  have f63 := A54.keep K60
  show oG p e below s n0 _ _ _ (T60.setTop (mkF m 123 #[.val (.long p1), .second, .val (.long p2), .second, .val (.long p3), .second, .val (.long p4), .second, .val (.long p5), .second, .val (.long p6), .second, .val (.ref b1), .val (.ref b3), .unset, .unset] [(.ref b54)]))
  refine o_astore H60 (L' := #[.val (.long p1), .second, .val (.long p2), .second, .val (.long p3), .second, .val (.long p4), .second, .val (.long p5), .second, .val (.long p6), .second, .val (.ref b1), .val (.ref b3), .val (.ref b54), .unset]) rfl rfl at_123 rfl ?_
  refine o_aload H60 rfl rfl at_125 rfl ?_
  refine o_aload H60 rfl rfl at_127 rfl ?_
  refine o_iconst H60 (0 : Int32) rfl at_129 rfl ?_
  refine o_iaload H60 0 (.int (own_rd p1)) f61 (by decide) rfl at_130 rfl ?_
  refine o_aload H60 rfl rfl at_131 rfl ?_
  refine o_iconst H60 (0 : Int32) rfl at_133 rfl ?_
  refine o_iaload H60 0 (.int (own_ps p1)) f62 (by decide) rfl at_134 rfl ?_
  refine o_virtual H60 [(.int (own_rd p1)), (.int (own_ps p1))] [] (rm6_0 l Z a0 hw b54 (own_rd p1) (own_ps p1) wt (0 : Int32)  h60 n0 H60.le f63 z54 Fw60 Fc60 Fr60 z_wt neb_b54 A60 ) f63 (w25 hw) (w26 hw) (o_nf (w28 hw)) (w28 hw) (w27 hw) (w15 hw) (w29 hw) (by decide) (lenOf pd6 rfl) rfl rfl (by decide) (Nat.le_of_ble_eq_true rfl) (by decide) (by decide) at_135 rfl ?_
  intro T64 v64 h64 H64 q64
  obtain ⟨rfl, K64, Fw64, Fc64, Fr64, u64_0, A64, hp64, ct64⟩ := q64
  have f65 := f61.keep K64 (ninS ne54_b1 (ninS neb_b1 nin0))
  have f66 := f62.keep K64 (ninS ne54_b3 (ninS neb_b3 nin0))
  have f67 := f63.keep K64
  show oG p e below s n0 _ _ _ (T64.setTop (mkF m 138 #[.val (.long p1), .second, .val (.long p2), .second, .val (.long p3), .second, .val (.long p4), .second, .val (.long p5), .second, .val (.long p6), .second, .val (.ref b1), .val (.ref b3), .val (.ref b54), .unset] []))
  refine o_aload H64 rfl rfl at_138 rfl ?_
  refine o_aload H64 rfl rfl at_140 rfl ?_
  refine o_iconst H64 (1 : Int32) rfl at_142 rfl ?_
  refine o_iaload H64 1 (.int (own_rd p2)) f65 (by decide) rfl at_143 rfl ?_
  refine o_aload H64 rfl rfl at_144 rfl ?_
  refine o_iconst H64 (1 : Int32) rfl at_146 rfl ?_
  refine o_iaload H64 1 (.int (own_ps p2)) f66 (by decide) rfl at_147 rfl ?_
  refine o_virtual H64 [(.int (own_rd p2)), (.int (own_ps p2))] [] (rm6_1 l Z a0 hw b54 (own_rd p2) (own_ps p2) wt (0 : Int32) u64_0 h64 n0 H64.le f67 z54 Fw64 Fc64 Fr64 z_wt neb_b54 A64 ) f67 (w25 hw) (w26 hw) (o_nf (w28 hw)) (w28 hw) (w27 hw) (w15 hw) (w29 hw) (by decide) (lenOf pd6 rfl) rfl rfl (by decide) (Nat.le_of_ble_eq_true rfl) (by decide) (by decide) at_148 rfl ?_
  intro T68 v68 h68 H68 q68
  obtain ⟨rfl, K68, Fw68, Fc68, Fr68, u68_0, u68_1, A68, hp68, ct68⟩ := q68
  have f69 := f65.keep K68 (ninS ne54_b1 (ninS neb_b1 nin0))
  have f70 := f66.keep K68 (ninS ne54_b3 (ninS neb_b3 nin0))
  have f71 := f67.keep K68
  show oG p e below s n0 _ _ _ (T68.setTop (mkF m 151 #[.val (.long p1), .second, .val (.long p2), .second, .val (.long p3), .second, .val (.long p4), .second, .val (.long p5), .second, .val (.long p6), .second, .val (.ref b1), .val (.ref b3), .val (.ref b54), .unset] []))
  refine o_aload H68 rfl rfl at_151 rfl ?_
  refine o_aload H68 rfl rfl at_153 rfl ?_
  refine o_iconst H68 (2 : Int32) rfl at_155 rfl ?_
  refine o_iaload H68 2 (.int (own_rd p3)) f69 (by decide) rfl at_156 rfl ?_
  refine o_aload H68 rfl rfl at_157 rfl ?_
  refine o_iconst H68 (2 : Int32) rfl at_159 rfl ?_
  refine o_iaload H68 2 (.int (own_ps p3)) f70 (by decide) rfl at_160 rfl ?_
  refine o_virtual H68 [(.int (own_rd p3)), (.int (own_ps p3))] [] (rm6_2 l Z a0 hw b54 (own_rd p3) (own_ps p3) wt (0 : Int32) u68_0 u68_1 h68 n0 H68.le f71 z54 Fw68 Fc68 Fr68 z_wt neb_b54 A68 hp68) f71 (w25 hw) (w26 hw) (o_nf (w28 hw)) (w28 hw) (w27 hw) (w15 hw) (w29 hw) (by decide) (lenOf pd6 rfl) rfl rfl (by decide) (Nat.le_of_ble_eq_true rfl) (by decide) (by decide) at_161 rfl ?_
  intro T72 v72 h72 H72 q72
  obtain ⟨rfl, K72, Fw72, Fc72, Fr72, u72_0, u72_1, u72_2, A72, hp72, ct72⟩ := q72
  have f73 := f69.keep K72 (ninS ne54_b1 (ninS neb_b1 nin0))
  have f74 := f70.keep K72 (ninS ne54_b3 (ninS neb_b3 nin0))
  have f75 := f71.keep K72
  show oG p e below s n0 _ _ _ (T72.setTop (mkF m 164 #[.val (.long p1), .second, .val (.long p2), .second, .val (.long p3), .second, .val (.long p4), .second, .val (.long p5), .second, .val (.long p6), .second, .val (.ref b1), .val (.ref b3), .val (.ref b54), .unset] []))
  refine o_aload H72 rfl rfl at_164 rfl ?_
  refine o_aload H72 rfl rfl at_166 rfl ?_
  refine o_iconst H72 (3 : Int32) rfl at_168 rfl ?_
  refine o_iaload H72 3 (.int (own_rd p4)) f73 (by decide) rfl at_169 rfl ?_
  refine o_aload H72 rfl rfl at_170 rfl ?_
  refine o_iconst H72 (3 : Int32) rfl at_172 rfl ?_
  refine o_iaload H72 3 (.int (own_ps p4)) f74 (by decide) rfl at_173 rfl ?_
  refine o_virtual H72 [(.int (own_rd p4)), (.int (own_ps p4))] [] (rm6_3 l Z a0 hw b54 (own_rd p4) (own_ps p4) wt (0 : Int32) u72_0 u72_1 u72_2 h72 n0 H72.le f75 z54 Fw72 Fc72 Fr72 z_wt neb_b54 A72 hp72) f75 (w25 hw) (w26 hw) (o_nf (w28 hw)) (w28 hw) (w27 hw) (w15 hw) (w29 hw) (by decide) (lenOf pd6 rfl) rfl rfl (by decide) (Nat.le_of_ble_eq_true rfl) (by decide) (by decide) at_174 rfl ?_
  intro T76 v76 h76 H76 q76
  obtain ⟨rfl, K76, Fw76, Fc76, Fr76, u76_0, u76_1, u76_2, u76_3, A76, hp76, ct76⟩ := q76
  have f77 := f73.keep K76 (ninS ne54_b1 (ninS neb_b1 nin0))
  have f78 := f74.keep K76 (ninS ne54_b3 (ninS neb_b3 nin0))
  have f79 := f75.keep K76
  show oG p e below s n0 _ _ _ (T76.setTop (mkF m 177 #[.val (.long p1), .second, .val (.long p2), .second, .val (.long p3), .second, .val (.long p4), .second, .val (.long p5), .second, .val (.long p6), .second, .val (.ref b1), .val (.ref b3), .val (.ref b54), .unset] []))
  refine o_aload H76 rfl rfl at_177 rfl ?_
  refine o_aload H76 rfl rfl at_179 rfl ?_
  refine o_iconst H76 (4 : Int32) rfl at_181 rfl ?_
  refine o_iaload H76 4 (.int (own_rd p5)) f77 (by decide) rfl at_182 rfl ?_
  refine o_aload H76 rfl rfl at_183 rfl ?_
  refine o_iconst H76 (4 : Int32) rfl at_185 rfl ?_
  refine o_iaload H76 4 (.int (own_ps p5)) f78 (by decide) rfl at_186 rfl ?_
  refine o_virtual H76 [(.int (own_rd p5)), (.int (own_ps p5))] [] (rm6_4 l Z a0 hw b54 (own_rd p5) (own_ps p5) wt (0 : Int32) u76_0 u76_1 u76_2 u76_3 h76 n0 H76.le f79 z54 Fw76 Fc76 Fr76 z_wt neb_b54 A76 hp76) f79 (w25 hw) (w26 hw) (o_nf (w28 hw)) (w28 hw) (w27 hw) (w15 hw) (w29 hw) (by decide) (lenOf pd6 rfl) rfl rfl (by decide) (Nat.le_of_ble_eq_true rfl) (by decide) (by decide) at_187 rfl ?_
  intro T80 v80 h80 H80 q80
  obtain ⟨rfl, K80, Fw80, Fc80, Fr80, u80_0, u80_1, u80_2, u80_3, u80_4, A80, hp80, ct80⟩ := q80
  have f81 := f77.keep K80 (ninS ne54_b1 (ninS neb_b1 nin0))
  have f82 := f78.keep K80 (ninS ne54_b3 (ninS neb_b3 nin0))
  have f83 := f79.keep K80
  show oG p e below s n0 _ _ _ (T80.setTop (mkF m 190 #[.val (.long p1), .second, .val (.long p2), .second, .val (.long p3), .second, .val (.long p4), .second, .val (.long p5), .second, .val (.long p6), .second, .val (.ref b1), .val (.ref b3), .val (.ref b54), .unset] []))
  refine o_aload H80 rfl rfl at_190 rfl ?_
  refine o_aload H80 rfl rfl at_192 rfl ?_
  refine o_iconst H80 (5 : Int32) rfl at_194 rfl ?_
  refine o_iaload H80 5 (.int (own_rd p6)) f81 (by decide) rfl at_195 rfl ?_
  refine o_aload H80 rfl rfl at_196 rfl ?_
  refine o_iconst H80 (5 : Int32) rfl at_198 rfl ?_
  refine o_iaload H80 5 (.int (own_ps p6)) f82 (by decide) rfl at_199 rfl ?_
  refine o_virtual H80 [(.int (own_rd p6)), (.int (own_ps p6))] [] (rm6_5 l Z a0 hw b54 (own_rd p6) (own_ps p6) wt (0 : Int32) u80_0 u80_1 u80_2 u80_3 u80_4 h80 n0 H80.le f83 z54 Fw80 Fc80 Fr80 z_wt neb_b54 A80 hp80) f83 (w25 hw) (w26 hw) (o_nf (w28 hw)) (w28 hw) (w27 hw) (w15 hw) (w29 hw) (by decide) (lenOf pd6 rfl) rfl rfl (by decide) (Nat.le_of_ble_eq_true rfl) (by decide) (by decide) at_200 rfl ?_
  intro T84 v84 h84 H84 q84
  obtain ⟨rfl, K84, Fw84, Fc84, Fr84, u84_0, u84_1, u84_2, u84_3, u84_4, u84_5, A84, hp84, ct84⟩ := q84
  have f85 := f81.keep K84 (ninS ne54_b1 (ninS neb_b1 nin0))
  have f86 := f82.keep K84 (ninS ne54_b3 (ninS neb_b3 nin0))
  have f87 := f83.keep K84
  show oG p e below s n0 _ _ _ (T84.setTop (mkF m 203 #[.val (.long p1), .second, .val (.long p2), .second, .val (.long p3), .second, .val (.long p4), .second, .val (.long p5), .second, .val (.long p6), .second, .val (.ref b1), .val (.ref b3), .val (.ref b54), .unset] []))
  refine o_aload H84 rfl rfl at_203 rfl ?_
  refine o_aload H84 rfl rfl at_205 rfl ?_
  refine o_static H84 [(.ref b1), (.ref b3)] [] (rm7 l Z a0 hw b1 b3 (own_rd p1) (own_rd p2) (own_rd p3) (own_rd p4) (own_rd p5) (own_rd p6) (own_ps p1) (own_ps p2) (own_ps p3) (own_ps p4) (own_ps p5) (own_ps p6) h84 n0 H84.le f85 f86 ne3_b1 z1 z3 in0 in1 in2 in3 in4 in5) (w32 hw) (w33 hw) (w3 hw) (w34 hw) (by decide) (lenOf pd7 rfl) rfl rfl (by decide) (Nat.le_of_ble_eq_true rfl) (by decide) (by decide) at_207 rfl ?_
  intro T88 v88 h88 H88 q88
  obtain ⟨rfl, K88, R88_0, R88_1, R88_2, R88_3, R88_4, R88_5, Q88_0, Q88_1, Q88_2, Q88_3, Q88_4, Q88_5, A88, C88, in88_0, in88_1, in88_2, in88_3, in88_4, in88_5, e88_0, e88_1, e88_2, e88_3, e88_4, e88_5⟩ := q88
  have f89 := f87.keep K88
  have f90 := Fw84.keep K88 (ninS (Ne.symm ne54_b1) (ninS (Ne.symm ne54_b3) nin0))
  have f91 := Fc84.keep K88 (ninS (Ne.symm ne54_b1) (ninS (Ne.symm ne54_b3) nin0))
  have f92 := Fr84.keep K88 (ninS (Ne.symm ne54_b1) (ninS (Ne.symm ne54_b3) nin0))
  have f93 := A84.keep K88 (ninS (Ne.symm neb_b1) (ninS (Ne.symm neb_b3) nin0))
  show oG p e below s n0 _ _ _ (T88.setTop (mkF m 210 #[.val (.long p1), .second, .val (.long p2), .second, .val (.long p3), .second, .val (.long p4), .second, .val (.long p5), .second, .val (.long p6), .second, .val (.ref b1), .val (.ref b3), .val (.ref b54), .unset] []))
  refine o_aload H88 rfl rfl at_210 rfl ?_
  refine o_aload H88 rfl rfl at_212 rfl ?_
  refine o_static H88 [(.ref b1), (.ref b3)] [] (rm9 l Z a0 hw b1 b3 R88_0 R88_1 R88_2 R88_3 R88_4 R88_5 Q88_0 Q88_1 Q88_2 Q88_3 Q88_4 Q88_5 h88 n0 H88.le A88 C88 ne3_b1 z1 z3 in88_0 in88_1 in88_2 in88_3 in88_4 in88_5) (w38 hw) (w39 hw) (w3 hw) (w40 hw) (by decide) (lenOf pd9 rfl) rfl rfl (by decide) (Nat.le_of_ble_eq_true rfl) (by decide) (by decide) at_214 rfl ?_
  intro T94 v94 h94 H94 q94
  obtain ⟨rfl, K94, R94_1, R94_2, R94_3, R94_4, Q94_1, Q94_2, Q94_3, Q94_4, A94, C94, in94_1, in94_2, in94_3, in94_4, e94_1, e94_2, e94_3, e94_4⟩ := q94
  have f95 := f89.keep K94
  have f96 := f90.keep K94 (ninS (Ne.symm ne54_b1) (ninS (Ne.symm ne54_b3) nin0))
  have f97 := f91.keep K94 (ninS (Ne.symm ne54_b1) (ninS (Ne.symm ne54_b3) nin0))
  have f98 := f92.keep K94 (ninS (Ne.symm ne54_b1) (ninS (Ne.symm ne54_b3) nin0))
  have f99 := f93.keep K94 (ninS (Ne.symm neb_b1) (ninS (Ne.symm neb_b3) nin0))
  show oG p e below s n0 _ _ _ (T94.setTop (mkF m 217 #[.val (.long p1), .second, .val (.long p2), .second, .val (.long p3), .second, .val (.long p4), .second, .val (.long p5), .second, .val (.long p6), .second, .val (.ref b1), .val (.ref b3), .val (.ref b54), .unset] []))
  refine o_aload H94 rfl rfl at_217 rfl ?_
  refine o_aload H94 rfl rfl at_219 rfl ?_
  refine o_static H94 [(.ref b1), (.ref b3)] [] (rm7 l Z a0 hw b1 b3 R88_0 R94_1 R94_2 R94_3 R94_4 R88_5 Q88_0 Q94_1 Q94_2 Q94_3 Q94_4 Q88_5 h94 n0 H94.le A94 C94 ne3_b1 z1 z3 in88_0 in94_1 in94_2 in94_3 in94_4 in88_5) (w32 hw) (w33 hw) (w3 hw) (w34 hw) (by decide) (lenOf pd7 rfl) rfl rfl (by decide) (Nat.le_of_ble_eq_true rfl) (by decide) (by decide) at_221 rfl ?_
  intro T100 v100 h100 H100 q100
  obtain ⟨rfl, K100, R100_0, R100_1, R100_2, R100_3, R100_4, R100_5, Q100_0, Q100_1, Q100_2, Q100_3, Q100_4, Q100_5, A100, C100, in100_0, in100_1, in100_2, in100_3, in100_4, in100_5, e100_0, e100_1, e100_2, e100_3, e100_4, e100_5⟩ := q100
  have f101 := f95.keep K100
  have f102 := f96.keep K100 (ninS (Ne.symm ne54_b1) (ninS (Ne.symm ne54_b3) nin0))
  have f103 := f97.keep K100 (ninS (Ne.symm ne54_b1) (ninS (Ne.symm ne54_b3) nin0))
  have f104 := f98.keep K100 (ninS (Ne.symm ne54_b1) (ninS (Ne.symm ne54_b3) nin0))
  have f105 := f99.keep K100 (ninS (Ne.symm neb_b1) (ninS (Ne.symm neb_b3) nin0))
  show oG p e below s n0 _ _ _ (T100.setTop (mkF m 224 #[.val (.long p1), .second, .val (.long p2), .second, .val (.long p3), .second, .val (.long p4), .second, .val (.long p5), .second, .val (.long p6), .second, .val (.ref b1), .val (.ref b3), .val (.ref b54), .unset] []))
  refine o_aload H100 rfl rfl at_224 rfl ?_
  refine o_aload H100 rfl rfl at_226 rfl ?_
  refine o_static H100 [(.ref b1), (.ref b3)] [] (rm9 l Z a0 hw b1 b3 R100_0 R100_1 R100_2 R100_3 R100_4 R100_5 Q100_0 Q100_1 Q100_2 Q100_3 Q100_4 Q100_5 h100 n0 H100.le A100 C100 ne3_b1 z1 z3 in100_0 in100_1 in100_2 in100_3 in100_4 in100_5) (w38 hw) (w39 hw) (w3 hw) (w40 hw) (by decide) (lenOf pd9 rfl) rfl rfl (by decide) (Nat.le_of_ble_eq_true rfl) (by decide) (by decide) at_228 rfl ?_
  intro T106 v106 h106 H106 q106
  obtain ⟨rfl, K106, R106_1, R106_2, R106_3, R106_4, Q106_1, Q106_2, Q106_3, Q106_4, A106, C106, in106_1, in106_2, in106_3, in106_4, e106_1, e106_2, e106_3, e106_4⟩ := q106
  have f107 := f101.keep K106
  have f108 := f102.keep K106 (ninS (Ne.symm ne54_b1) (ninS (Ne.symm ne54_b3) nin0))
  have f109 := f103.keep K106 (ninS (Ne.symm ne54_b1) (ninS (Ne.symm ne54_b3) nin0))
  have f110 := f104.keep K106 (ninS (Ne.symm ne54_b1) (ninS (Ne.symm ne54_b3) nin0))
  have f111 := f105.keep K106 (ninS (Ne.symm neb_b1) (ninS (Ne.symm neb_b3) nin0))
  show oG p e below s n0 _ _ _ (T106.setTop (mkF m 231 #[.val (.long p1), .second, .val (.long p2), .second, .val (.long p3), .second, .val (.long p4), .second, .val (.long p5), .second, .val (.long p6), .second, .val (.ref b1), .val (.ref b3), .val (.ref b54), .unset] []))
  refine o_aload H106 rfl rfl at_231 rfl ?_
  refine o_aload H106 rfl rfl at_233 rfl ?_
  refine o_static H106 [(.ref b1), (.ref b3)] [] (rm7 l Z a0 hw b1 b3 R100_0 R106_1 R106_2 R106_3 R106_4 R100_5 Q100_0 Q106_1 Q106_2 Q106_3 Q106_4 Q100_5 h106 n0 H106.le A106 C106 ne3_b1 z1 z3 in100_0 in106_1 in106_2 in106_3 in106_4 in100_5) (w32 hw) (w33 hw) (w3 hw) (w34 hw) (by decide) (lenOf pd7 rfl) rfl rfl (by decide) (Nat.le_of_ble_eq_true rfl) (by decide) (by decide) at_235 rfl ?_
  intro T112 v112 h112 H112 q112
  obtain ⟨rfl, K112, R112_0, R112_1, R112_2, R112_3, R112_4, R112_5, Q112_0, Q112_1, Q112_2, Q112_3, Q112_4, Q112_5, A112, C112, in112_0, in112_1, in112_2, in112_3, in112_4, in112_5, e112_0, e112_1, e112_2, e112_3, e112_4, e112_5⟩ := q112
  have f113 := f107.keep K112
  have f114 := f108.keep K112 (ninS (Ne.symm ne54_b1) (ninS (Ne.symm ne54_b3) nin0))
  have f115 := f109.keep K112 (ninS (Ne.symm ne54_b1) (ninS (Ne.symm ne54_b3) nin0))
  have f116 := f110.keep K112 (ninS (Ne.symm ne54_b1) (ninS (Ne.symm ne54_b3) nin0))
  have f117 := f111.keep K112 (ninS (Ne.symm neb_b1) (ninS (Ne.symm neb_b3) nin0))
  show oG p e below s n0 _ _ _ (T112.setTop (mkF m 238 #[.val (.long p1), .second, .val (.long p2), .second, .val (.long p3), .second, .val (.long p4), .second, .val (.long p5), .second, .val (.long p6), .second, .val (.ref b1), .val (.ref b3), .val (.ref b54), .unset] []))
  refine o_aload H112 rfl rfl at_238 rfl ?_
  refine o_aload H112 rfl rfl at_240 rfl ?_
  refine o_static H112 [(.ref b1), (.ref b3)] [] (rm9 l Z a0 hw b1 b3 R112_0 R112_1 R112_2 R112_3 R112_4 R112_5 Q112_0 Q112_1 Q112_2 Q112_3 Q112_4 Q112_5 h112 n0 H112.le A112 C112 ne3_b1 z1 z3 in112_0 in112_1 in112_2 in112_3 in112_4 in112_5) (w38 hw) (w39 hw) (w3 hw) (w40 hw) (by decide) (lenOf pd9 rfl) rfl rfl (by decide) (Nat.le_of_ble_eq_true rfl) (by decide) (by decide) at_242 rfl ?_
  intro T118 v118 h118 H118 q118
  obtain ⟨rfl, K118, R118_1, R118_2, R118_3, R118_4, Q118_1, Q118_2, Q118_3, Q118_4, A118, C118, in118_1, in118_2, in118_3, in118_4, e118_1, e118_2, e118_3, e118_4⟩ := q118
  have f119 := f113.keep K118
  have f120 := f114.keep K118 (ninS (Ne.symm ne54_b1) (ninS (Ne.symm ne54_b3) nin0))
  have f121 := f115.keep K118 (ninS (Ne.symm ne54_b1) (ninS (Ne.symm ne54_b3) nin0))
  have f122 := f116.keep K118 (ninS (Ne.symm ne54_b1) (ninS (Ne.symm ne54_b3) nin0))
  have f123 := f117.keep K118 (ninS (Ne.symm neb_b1) (ninS (Ne.symm neb_b3) nin0))
  show oG p e below s n0 _ _ _ (T118.setTop (mkF m 245 #[.val (.long p1), .second, .val (.long p2), .second, .val (.long p3), .second, .val (.long p4), .second, .val (.long p5), .second, .val (.long p6), .second, .val (.ref b1), .val (.ref b3), .val (.ref b54), .unset] []))
  have srt := own_net (own_K (own_rd p1) (own_ps p1)) (own_K (own_rd p2) (own_ps p2)) (own_K (own_rd p3) (own_ps p3)) (own_K (own_rd p4) (own_ps p4)) (own_K (own_rd p5) (own_ps p5)) (own_K (own_rd p6) (own_ps p6)) (own_K R88_0 Q88_0) (own_K R88_1 Q88_1) (own_K R88_2 Q88_2) (own_K R88_3 Q88_3) (own_K R88_4 Q88_4) (own_K R88_5 Q88_5) (own_K R88_0 Q88_0) (own_K R94_1 Q94_1) (own_K R94_2 Q94_2) (own_K R94_3 Q94_3) (own_K R94_4 Q94_4) (own_K R88_5 Q88_5) (own_K R100_0 Q100_0) (own_K R100_1 Q100_1) (own_K R100_2 Q100_2) (own_K R100_3 Q100_3) (own_K R100_4 Q100_4) (own_K R100_5 Q100_5) (own_K R100_0 Q100_0) (own_K R106_1 Q106_1) (own_K R106_2 Q106_2) (own_K R106_3 Q106_3) (own_K R106_4 Q106_4) (own_K R100_5 Q100_5) (own_K R112_0 Q112_0) (own_K R112_1 Q112_1) (own_K R112_2 Q112_2) (own_K R112_3 Q112_3) (own_K R112_4 Q112_4) (own_K R112_5 Q112_5) (own_K R112_0 Q112_0) (own_K R118_1 Q118_1) (own_K R118_2 Q118_2) (own_K R118_3 Q118_3) (own_K R118_4 Q118_4) (own_K R112_5 Q112_5) e88_0 e88_1 e88_2 e88_3 e88_4 e88_5 rfl e94_1 e94_2 e94_3 e94_4 rfl e100_0 e100_1 e100_2 e100_3 e100_4 e100_5 rfl e106_1 e106_2 e106_3 e106_4 rfl e112_0 e112_1 e112_2 e112_3 e112_4 e112_5 rfl e118_1 e118_2 e118_3 e118_4 rfl
  have cn := own_cnt (own_K (own_rd p1) (own_ps p1)) (own_K (own_rd p2) (own_ps p2)) (own_K (own_rd p3) (own_ps p3)) (own_K (own_rd p4) (own_ps p4)) (own_K (own_rd p5) (own_ps p5)) (own_K (own_rd p6) (own_ps p6)) (own_K R88_0 Q88_0) (own_K R88_1 Q88_1) (own_K R88_2 Q88_2) (own_K R88_3 Q88_3) (own_K R88_4 Q88_4) (own_K R88_5 Q88_5) (own_K R88_0 Q88_0) (own_K R94_1 Q94_1) (own_K R94_2 Q94_2) (own_K R94_3 Q94_3) (own_K R94_4 Q94_4) (own_K R88_5 Q88_5) (own_K R100_0 Q100_0) (own_K R100_1 Q100_1) (own_K R100_2 Q100_2) (own_K R100_3 Q100_3) (own_K R100_4 Q100_4) (own_K R100_5 Q100_5) (own_K R100_0 Q100_0) (own_K R106_1 Q106_1) (own_K R106_2 Q106_2) (own_K R106_3 Q106_3) (own_K R106_4 Q106_4) (own_K R100_5 Q100_5) (own_K R112_0 Q112_0) (own_K R112_1 Q112_1) (own_K R112_2 Q112_2) (own_K R112_3 Q112_3) (own_K R112_4 Q112_4) (own_K R112_5 Q112_5) (own_K R112_0 Q112_0) (own_K R118_1 Q118_1) (own_K R118_2 Q118_2) (own_K R118_3 Q118_3) (own_K R118_4 Q118_4) (own_K R112_5 Q112_5) e88_0 e88_1 e88_2 e88_3 e88_4 e88_5 rfl e94_1 e94_2 e94_3 e94_4 rfl e100_0 e100_1 e100_2 e100_3 e100_4 e100_5 rfl e106_1 e106_2 e106_3 e106_4 rfl e112_0 e112_1 e112_2 e112_3 e112_4 e112_5 rfl e118_1 e118_2 e118_3 e118_4 rfl
  have kk0 := fun t => own_ck t (own_key (own_rd p1) (own_ps p1)) _ (own_keyK _ _ in0)
  have kk1 := fun t => own_ck t (own_key (own_rd p2) (own_ps p2)) _ (own_keyK _ _ in1)
  have kk2 := fun t => own_ck t (own_key (own_rd p3) (own_ps p3)) _ (own_keyK _ _ in2)
  have kk3 := fun t => own_ck t (own_key (own_rd p4) (own_ps p4)) _ (own_keyK _ _ in3)
  have kk4 := fun t => own_ck t (own_key (own_rd p5) (own_ps p5)) _ (own_keyK _ _ in4)
  have kk5 := fun t => own_ck t (own_key (own_rd p6) (own_ps p6)) _ (own_keyK _ _ in5)
  have hc0 : ∀ t, own_c t u84_0 + own_c t u84_1 + own_c t u84_2 + own_c t u84_3 + own_c t u84_4 + own_c t u84_5 = own_k t (own_K R112_0 Q112_0) + own_k t (own_K R118_1 Q118_1) + own_k t (own_K R118_2 Q118_2) + own_k t (own_K R118_3 Q118_3) + own_k t (own_K R118_4 Q118_4) + own_k t (own_K R112_5 Q112_5) := fun t => by have y0 := ct64 t; have y1 := ct68 t; have y2 := ct72 t; have y3 := ct76 t; have y4 := ct80 t; have y5 := ct84 t; have x0 := kk0 t; have x1 := kk1 t; have x2 := kk2 t; have x3 := kk3 t; have x4 := kk4 t; have x5 := kk5 t; have z9 := cn t; omega
  refine o_aload H118 rfl rfl at_245 rfl ?_
  refine o_aload H118 rfl rfl at_247 rfl ?_
  refine o_iconst H118 (0 : Int32) rfl at_249 rfl ?_
  refine o_iaload H118 0 (.int R112_0) A118 (by decide) rfl at_250 rfl ?_
  refine o_aload H118 rfl rfl at_251 rfl ?_
  refine o_iconst H118 (0 : Int32) rfl at_253 rfl ?_
  refine o_iaload H118 0 (.int Q112_0) C118 (by decide) rfl at_254 rfl ?_
  have mn0 := own_min6 u84_0 u84_1 u84_2 u84_3 u84_4 u84_5 (own_K R112_0 Q112_0) (own_K R118_1 Q118_1) (own_K R118_2 Q118_2) (own_K R118_3 Q118_3) (own_K R118_4 Q118_4) (own_K R112_5 Q112_5) (by omega) (by omega) (by omega) (by omega) (by omega) (by omega) (by omega) (by omega) (by omega) (by omega) hc0
  obtain ⟨bk0, bl0⟩ := own_back u84_0 R112_0 Q112_0 in112_0 mn0
  refine o_static H118 [(.ref b54), (.int R112_0), (.int Q112_0)] [] (rm10_6 l Z a0 hw b54 R112_0 Q112_0 wt (0 : Int32) u84_0 u84_1 u84_2 u84_3 u84_4 u84_5 (0 : Int64) (0 : Int64) (0 : Int64) (0 : Int64) (0 : Int64) (0 : Int64) (0 : Int64) (0 : Int64) (0 : Int64) (0 : Int64) h118 n0 H118.le f119 z54 f120 f121 f122 z_wt neb_b54 f123 hp84 bk0 bl0) (w41 hw) (w42 hw) (w3 hw) (w43 hw) (by decide) (lenOf pd10 rfl) rfl rfl (by decide) (Nat.le_of_ble_eq_true rfl) (by decide) (by decide) at_255 rfl ?_
  intro T124 v124 h124 H124 q124
  obtain ⟨rfl, K124, Fw124, Fc124, Fr124, u124_0, u124_1, u124_2, u124_3, u124_4, A124, hp124, ct124⟩ := q124
  have f125 := f119.keep K124
  have f126 := A118.keep K124 (ninS ne54_b1 (ninS neb_b1 nin0))
  have f127 := C118.keep K124 (ninS ne54_b3 (ninS neb_b3 nin0))
  have hc1 : ∀ t, own_c t u124_0 + own_c t u124_1 + own_c t u124_2 + own_c t u124_3 + own_c t u124_4 = own_k t (own_K R118_1 Q118_1) + own_k t (own_K R118_2 Q118_2) + own_k t (own_K R118_3 Q118_3) + own_k t (own_K R118_4 Q118_4) + own_k t (own_K R112_5 Q112_5) := fun t => by have z1 := ct124 t; have z2 := hc0 t; have z3 := own_ck t u84_0 _ mn0; omega
  show oG p e below s n0 _ _ _ (T124.setTop (mkF m 258 #[.val (.long p1), .second, .val (.long p2), .second, .val (.long p3), .second, .val (.long p4), .second, .val (.long p5), .second, .val (.long p6), .second, .val (.ref b1), .val (.ref b3), .val (.ref b54), .unset] [(.int (1 : Int32))]))
  refine o_if_f H124 at_258 (by decide) rfl ?_
  refine o_aload H124 rfl rfl at_261 rfl ?_
  refine o_aload H124 rfl rfl at_263 rfl ?_
  refine o_iconst H124 (1 : Int32) rfl at_265 rfl ?_
  refine o_iaload H124 1 (.int R118_1) f126 (by decide) rfl at_266 rfl ?_
  refine o_aload H124 rfl rfl at_267 rfl ?_
  refine o_iconst H124 (1 : Int32) rfl at_269 rfl ?_
  refine o_iaload H124 1 (.int Q118_1) f127 (by decide) rfl at_270 rfl ?_
  have mn1 := own_min5 u124_0 u124_1 u124_2 u124_3 u124_4 (own_K R118_1 Q118_1) (own_K R118_2 Q118_2) (own_K R118_3 Q118_3) (own_K R118_4 Q118_4) (own_K R112_5 Q112_5) (by omega) (by omega) (by omega) (by omega) (by omega) (by omega) (by omega) (by omega) hc1
  obtain ⟨bk1, bl1⟩ := own_back u124_0 R118_1 Q118_1 in118_1 mn1
  refine o_static H124 [(.ref b54), (.int R118_1), (.int Q118_1)] [] (rm10_5 l Z a0 hw b54 R118_1 Q118_1 wt ((XT.ushrL u84_0 (32 : Int32)).toInt32) u124_0 u124_1 u124_2 u124_3 u124_4 u84_5 (0 : Int64) (0 : Int64) (0 : Int64) (0 : Int64) (0 : Int64) (0 : Int64) (0 : Int64) (0 : Int64) (0 : Int64) (0 : Int64) h124 n0 H124.le f125 z54 Fw124 Fc124 Fr124 z_wt neb_b54 A124 hp124 bk1 bl1) (w41 hw) (w42 hw) (w3 hw) (w43 hw) (by decide) (lenOf pd10 rfl) rfl rfl (by decide) (Nat.le_of_ble_eq_true rfl) (by decide) (by decide) at_271 rfl ?_
  intro T128 v128 h128 H128 q128
  obtain ⟨rfl, K128, Fw128, Fc128, Fr128, u128_0, u128_1, u128_2, u128_3, A128, hp128, ct128⟩ := q128
  have f129 := f125.keep K128
  have f130 := f126.keep K128 (ninS ne54_b1 (ninS neb_b1 nin0))
  have f131 := f127.keep K128 (ninS ne54_b3 (ninS neb_b3 nin0))
  have hc2 : ∀ t, own_c t u128_0 + own_c t u128_1 + own_c t u128_2 + own_c t u128_3 = own_k t (own_K R118_2 Q118_2) + own_k t (own_K R118_3 Q118_3) + own_k t (own_K R118_4 Q118_4) + own_k t (own_K R112_5 Q112_5) := fun t => by have z1 := ct128 t; have z2 := hc1 t; have z3 := own_ck t u124_0 _ mn1; omega
  show oG p e below s n0 _ _ _ (T128.setTop (mkF m 274 #[.val (.long p1), .second, .val (.long p2), .second, .val (.long p3), .second, .val (.long p4), .second, .val (.long p5), .second, .val (.long p6), .second, .val (.ref b1), .val (.ref b3), .val (.ref b54), .unset] [(.int (1 : Int32))]))
  refine o_if_f H128 at_274 (by decide) rfl ?_
  refine o_aload H128 rfl rfl at_277 rfl ?_
  refine o_aload H128 rfl rfl at_279 rfl ?_
  refine o_iconst H128 (2 : Int32) rfl at_281 rfl ?_
  refine o_iaload H128 2 (.int R118_2) f130 (by decide) rfl at_282 rfl ?_
  refine o_aload H128 rfl rfl at_283 rfl ?_
  refine o_iconst H128 (2 : Int32) rfl at_285 rfl ?_
  refine o_iaload H128 2 (.int Q118_2) f131 (by decide) rfl at_286 rfl ?_
  have mn2 := own_min4 u128_0 u128_1 u128_2 u128_3 (own_K R118_2 Q118_2) (own_K R118_3 Q118_3) (own_K R118_4 Q118_4) (own_K R112_5 Q112_5) (by omega) (by omega) (by omega) (by omega) (by omega) (by omega) hc2
  obtain ⟨bk2, bl2⟩ := own_back u128_0 R118_2 Q118_2 in118_2 mn2
  refine o_static H128 [(.ref b54), (.int R118_2), (.int Q118_2)] [] (rm10_4 l Z a0 hw b54 R118_2 Q118_2 wt ((XT.ushrL u124_0 (32 : Int32)).toInt32) u128_0 u128_1 u128_2 u128_3 u124_4 u84_5 (0 : Int64) (0 : Int64) (0 : Int64) (0 : Int64) (0 : Int64) (0 : Int64) (0 : Int64) (0 : Int64) (0 : Int64) (0 : Int64) h128 n0 H128.le f129 z54 Fw128 Fc128 Fr128 z_wt neb_b54 A128 hp128 bk2 bl2) (w41 hw) (w42 hw) (w3 hw) (w43 hw) (by decide) (lenOf pd10 rfl) rfl rfl (by decide) (Nat.le_of_ble_eq_true rfl) (by decide) (by decide) at_287 rfl ?_
  intro T132 v132 h132 H132 q132
  obtain ⟨rfl, K132, Fw132, Fc132, Fr132, u132_0, u132_1, u132_2, A132, hp132, ct132⟩ := q132
  have f133 := f129.keep K132
  have f134 := f130.keep K132 (ninS ne54_b1 (ninS neb_b1 nin0))
  have f135 := f131.keep K132 (ninS ne54_b3 (ninS neb_b3 nin0))
  have hc3 : ∀ t, own_c t u132_0 + own_c t u132_1 + own_c t u132_2 = own_k t (own_K R118_3 Q118_3) + own_k t (own_K R118_4 Q118_4) + own_k t (own_K R112_5 Q112_5) := fun t => by have z1 := ct132 t; have z2 := hc2 t; have z3 := own_ck t u128_0 _ mn2; omega
  show oG p e below s n0 _ _ _ (T132.setTop (mkF m 290 #[.val (.long p1), .second, .val (.long p2), .second, .val (.long p3), .second, .val (.long p4), .second, .val (.long p5), .second, .val (.long p6), .second, .val (.ref b1), .val (.ref b3), .val (.ref b54), .unset] [(.int (1 : Int32))]))
  refine o_if_f H132 at_290 (by decide) rfl ?_
  refine o_aload H132 rfl rfl at_293 rfl ?_
  refine o_aload H132 rfl rfl at_295 rfl ?_
  refine o_iconst H132 (3 : Int32) rfl at_297 rfl ?_
  refine o_iaload H132 3 (.int R118_3) f134 (by decide) rfl at_298 rfl ?_
  refine o_aload H132 rfl rfl at_299 rfl ?_
  refine o_iconst H132 (3 : Int32) rfl at_301 rfl ?_
  refine o_iaload H132 3 (.int Q118_3) f135 (by decide) rfl at_302 rfl ?_
  have mn3 := own_min3 u132_0 u132_1 u132_2 (own_K R118_3 Q118_3) (own_K R118_4 Q118_4) (own_K R112_5 Q112_5) (by omega) (by omega) (by omega) (by omega) hc3
  obtain ⟨bk3, bl3⟩ := own_back u132_0 R118_3 Q118_3 in118_3 mn3
  refine o_static H132 [(.ref b54), (.int R118_3), (.int Q118_3)] [] (rm10_3 l Z a0 hw b54 R118_3 Q118_3 wt ((XT.ushrL u128_0 (32 : Int32)).toInt32) u132_0 u132_1 u132_2 u128_3 u124_4 u84_5 (0 : Int64) (0 : Int64) (0 : Int64) (0 : Int64) (0 : Int64) (0 : Int64) (0 : Int64) (0 : Int64) (0 : Int64) (0 : Int64) h132 n0 H132.le f133 z54 Fw132 Fc132 Fr132 z_wt neb_b54 A132 hp132 bk3 bl3) (w41 hw) (w42 hw) (w3 hw) (w43 hw) (by decide) (lenOf pd10 rfl) rfl rfl (by decide) (Nat.le_of_ble_eq_true rfl) (by decide) (by decide) at_303 rfl ?_
  intro T136 v136 h136 H136 q136
  obtain ⟨rfl, K136, Fw136, Fc136, Fr136, u136_0, u136_1, A136, hp136, ct136⟩ := q136
  have f137 := f133.keep K136
  have f138 := f134.keep K136 (ninS ne54_b1 (ninS neb_b1 nin0))
  have f139 := f135.keep K136 (ninS ne54_b3 (ninS neb_b3 nin0))
  have hc4 : ∀ t, own_c t u136_0 + own_c t u136_1 = own_k t (own_K R118_4 Q118_4) + own_k t (own_K R112_5 Q112_5) := fun t => by have z1 := ct136 t; have z2 := hc3 t; have z3 := own_ck t u132_0 _ mn3; omega
  show oG p e below s n0 _ _ _ (T136.setTop (mkF m 306 #[.val (.long p1), .second, .val (.long p2), .second, .val (.long p3), .second, .val (.long p4), .second, .val (.long p5), .second, .val (.long p6), .second, .val (.ref b1), .val (.ref b3), .val (.ref b54), .unset] [(.int (1 : Int32))]))
  refine o_if_f H136 at_306 (by decide) rfl ?_
  refine o_aload H136 rfl rfl at_309 rfl ?_
  refine o_aload H136 rfl rfl at_311 rfl ?_
  refine o_iconst H136 (4 : Int32) rfl at_313 rfl ?_
  refine o_iaload H136 4 (.int R118_4) f138 (by decide) rfl at_314 rfl ?_
  refine o_aload H136 rfl rfl at_315 rfl ?_
  refine o_iconst H136 (4 : Int32) rfl at_317 rfl ?_
  refine o_iaload H136 4 (.int Q118_4) f139 (by decide) rfl at_318 rfl ?_
  have mn4 := own_min2 u136_0 u136_1 (own_K R118_4 Q118_4) (own_K R112_5 Q112_5) (by omega) (by omega) hc4
  obtain ⟨bk4, bl4⟩ := own_back u136_0 R118_4 Q118_4 in118_4 mn4
  refine o_static H136 [(.ref b54), (.int R118_4), (.int Q118_4)] [] (rm10_2 l Z a0 hw b54 R118_4 Q118_4 wt ((XT.ushrL u132_0 (32 : Int32)).toInt32) u136_0 u136_1 u132_2 u128_3 u124_4 u84_5 (0 : Int64) (0 : Int64) (0 : Int64) (0 : Int64) (0 : Int64) (0 : Int64) (0 : Int64) (0 : Int64) (0 : Int64) (0 : Int64) h136 n0 H136.le f137 z54 Fw136 Fc136 Fr136 z_wt neb_b54 A136 hp136 bk4 bl4) (w41 hw) (w42 hw) (w3 hw) (w43 hw) (by decide) (lenOf pd10 rfl) rfl rfl (by decide) (Nat.le_of_ble_eq_true rfl) (by decide) (by decide) at_319 rfl ?_
  intro T140 v140 h140 H140 q140
  obtain ⟨rfl, K140, Fw140, Fc140, Fr140, u140_0, A140, hp140, ct140⟩ := q140
  have f141 := f137.keep K140
  have f142 := f138.keep K140 (ninS ne54_b1 (ninS neb_b1 nin0))
  have f143 := f139.keep K140 (ninS ne54_b3 (ninS neb_b3 nin0))
  have hc5 : ∀ t, own_c t u140_0 = own_k t (own_K R112_5 Q112_5) := fun t => by have z1 := ct140 t; have z2 := hc4 t; have z3 := own_ck t u136_0 _ mn4; omega
  show oG p e below s n0 _ _ _ (T140.setTop (mkF m 322 #[.val (.long p1), .second, .val (.long p2), .second, .val (.long p3), .second, .val (.long p4), .second, .val (.long p5), .second, .val (.long p6), .second, .val (.ref b1), .val (.ref b3), .val (.ref b54), .unset] [(.int (1 : Int32))]))
  refine o_if_f H140 at_322 (by decide) rfl ?_
  refine o_aload H140 rfl rfl at_325 rfl ?_
  refine o_aload H140 rfl rfl at_327 rfl ?_
  refine o_iconst H140 (5 : Int32) rfl at_329 rfl ?_
  refine o_iaload H140 5 (.int R112_5) f142 (by decide) rfl at_330 rfl ?_
  refine o_aload H140 rfl rfl at_331 rfl ?_
  refine o_iconst H140 (5 : Int32) rfl at_333 rfl ?_
  refine o_iaload H140 5 (.int Q112_5) f143 (by decide) rfl at_334 rfl ?_
  have mn5 := own_min1 u140_0 (own_K R112_5 Q112_5)   hc5
  obtain ⟨bk5, bl5⟩ := own_back u140_0 R112_5 Q112_5 in112_5 mn5
  refine o_static H140 [(.ref b54), (.int R112_5), (.int Q112_5)] [] (rm10_1 l Z a0 hw b54 R112_5 Q112_5 wt ((XT.ushrL u136_0 (32 : Int32)).toInt32) u140_0 u136_1 u132_2 u128_3 u124_4 u84_5 (0 : Int64) (0 : Int64) (0 : Int64) (0 : Int64) (0 : Int64) (0 : Int64) (0 : Int64) (0 : Int64) (0 : Int64) (0 : Int64) h140 n0 H140.le f141 z54 Fw140 Fc140 Fr140 z_wt neb_b54 A140  bk5 bl5) (w41 hw) (w42 hw) (w3 hw) (w43 hw) (by decide) (lenOf pd10 rfl) rfl rfl (by decide) (Nat.le_of_ble_eq_true rfl) (by decide) (by decide) at_335 rfl ?_
  intro T144 v144 h144 H144 q144
  obtain ⟨rfl, K144, Fw144, Fc144, Fr144, A144, hp144, ct144⟩ := q144
  have f145 := f141.keep K144
  have f146 := f142.keep K144 (ninS ne54_b1 (ninS neb_b1 nin0))
  have f147 := f143.keep K144 (ninS ne54_b3 (ninS neb_b3 nin0))
  show oG p e below s n0 _ _ _ (T144.setTop (mkF m 338 #[.val (.long p1), .second, .val (.long p2), .second, .val (.long p3), .second, .val (.long p4), .second, .val (.long p5), .second, .val (.long p6), .second, .val (.ref b1), .val (.ref b3), .val (.ref b54), .unset] [(.int (1 : Int32))]))
  refine o_if_f H144 at_338 (by decide) rfl ?_
  refine o_iconst H144 (1 : Int32) rfl at_341 rfl ?_
  refine o_goto H144 at_342 (pt := 346) (by decide) (by decide) ?_
  refine o_istore H144 (L' := #[.val (.long p1), .second, .val (.long p2), .second, .val (.long p3), .second, .val (.long p4), .second, .val (.long p5), .second, .val (.long p6), .second, .val (.ref b1), .val (.ref b3), .val (.ref b54), .val (.int (1 : Int32))]) rfl at_346 rfl ?_
  refine o_iload H144 rfl at_348 rfl ?_
  refine o_if_f H144 at_350 (by decide) rfl ?_
  refine o_aload H144 rfl rfl at_353 rfl ?_
  refine o_virtual H144 [] [] (rm13 l Z a0 hw b54 h144 n0 H144.le Fc144) f145 (w56 hw) (w57 hw) (o_nf (w59 hw)) (w59 hw) (w58 hw) (w15 hw) (w60 hw) (by decide) (lenOf pd13 rfl) rfl rfl (by decide) (Nat.le_of_ble_eq_true rfl) (by decide) (by decide) at_355 rfl ?_
  intro T148 v148 h148 H148 q148
  obtain ⟨rfl, rfl⟩ := q148
  show oG p e below s n0 _ _ _ (T148.setTop (mkF m 358 #[.val (.long p1), .second, .val (.long p2), .second, .val (.long p3), .second, .val (.long p4), .second, .val (.long p5), .second, .val (.long p6), .second, .val (.ref b1), .val (.ref b3), .val (.ref b54), .val (.int (1 : Int32))] [(.int (1 : Int32))]))
  refine o_if_f H148 at_358 (by decide) rfl ?_
  refine o_iconst H148 (1 : Int32) rfl at_361 rfl ?_
  refine o_goto H148 at_362 (pt := 366) (by decide) (by decide) ?_
  exact o_nreturn H148 .boolean rfl (by simp) at_366 (by decide) (by decide) rfl
set_option maxRecDepth 65536 in
set_option maxHeartbeats 40000000 in
theorem comes_1 {Post : Tables → Env → Array Value → State → Outcome → State → Prop} (hpost : ∀ tb e args s v u, (limb_1_1.after args s (.returned v) u = true ∧ limb_1_2.after args s (.returned v) u = true ∧ True) → FrameEnd s (.returned v) u (Jvm.fieldLocs frame_1_writes args s ++ Jvm.arrayLocs frame_1_arrays args s ++ Jvm.staticLocs frame_1_statics s) 16 128 → Post tb e args s (.returned v) u) :
    ArmFor flags0 classFile x code maxLocals ret World_1 tables_1 room_1 Calls_1 rest_1 Pre_1 Post := by
  intro l hfl _ _ p e ha hc hk s m args below hf hA hF happ hP
  obtain ⟨hcalls, hrest, hpre⟩ := hP
  obtain ⟨-, -, -, hnamed, -, -, -, hat⟩ := (Spec.applies_iff hf).mp happ
  obtain ⟨hg, hn⟩ := and_e (Cond.before_iff.mp (show (Jvm.Cond.and given_1 narrow_1).before args s = true from hpre))
  obtain ⟨g0, gs0⟩ := and_e hg
  obtain ⟨a0, gs1⟩ := and_e gs0
  obtain ⟨a1, gs2⟩ := and_e gs1
  obtain ⟨a2, gs3⟩ := and_e gs2
  obtain ⟨a3, gs4⟩ := and_e gs3
  obtain ⟨a4, gs5⟩ := and_e gs4
  have a5 := gs5
  obtain ⟨w0, w1, w2, w3, w4, w5, rfl⟩ : ∃ w0 w1 w2 w3 w4 w5 : Value, args = #[w0, w1, w2, w3, w4, w5] := by
    have hs : args.size = 6 := by simpa [Cond.value, given_1] using g0
    obtain ⟨L⟩ := args
    match L, hs with
    | [w0, w1, w2, w3, w4, w5], _ => exact ⟨w0, w1, w2, w3, w4, w5, rfl⟩
  have hw := fun d (hd : d ∈ tables_1) => atoms_spec (ws := Jvm.Cond.code x code maxLocals ret :: tables_1) hat d (List.mem_cons_of_mem _ hd)
  have hfit : Fit s := fun {y c} hc i hi => by
    obtain ⟨ha, rfl⟩ := Array.getElem?_eq_some_iff.mp hc
    have q := List.all_eq_true.mp ((Array.all_eq_true_iff_forall_mem.mp hF) _ (Array.getElem_mem ha)) i (List.mem_range.mpr hi)
    simpa [Array.getElem?_eq_getElem hi] using q
  obtain ⟨i0, e0⟩ := isL_v a0
  obtain rfl : w0 = (.long i0) := Option.some.inj e0
  obtain ⟨i1, e1⟩ := isL_v a1
  obtain rfl : w1 = (.long i1) := Option.some.inj e1
  obtain ⟨i2, e2⟩ := isL_v a2
  obtain rfl : w2 = (.long i2) := Option.some.inj e2
  obtain ⟨i3, e3⟩ := isL_v a3
  obtain rfl : w3 = (.long i3) := Option.some.inj e3
  obtain ⟨i4, e4⟩ := isL_v a4
  obtain rfl : w4 = (.long i4) := Option.some.inj e4
  obtain ⟨i5, e5⟩ := isL_v a5
  obtain rfl : w5 = (.long i5) := Option.some.inj e5
  obtain ⟨n, o, h1, h2, h3, _, L, rfl, ⟨rfl, N⟩, hq⟩ := rm0 l s _ hw i0 i1 i2 i3 i4 i5  s.heap s.heap.size (Nat.le_refl _)  tables_1 p e ha hc hk s m _ below hf ((Spec.applies_iff_loose hf).mp happ).1 ⟨rfl, State.Warmed39.refl s, rfl⟩ trivial
  refine ⟨n, _, h1, h2, h3, hpost _ _ _ _ _ _ ⟨Cond.after_iff.mpr rfl, Cond.after_iff.mpr (eq_i res_at (Term.int_eval (1)) rfl), trivial⟩ ⟨hq.1, hq.2.1, (hq.2.2.sift fun y hy => Or.inr (N y hy)).mono (by decide) (by decide)⟩⟩
theorem main_1_1 : Claimed_1_1 := comes_1 fun _ _ _ _ _ _ h hF => ⟨h.1, hF⟩
theorem main_1_2 : Claimed_1_2 := comes_1 fun _ _ _ _ _ _ h hF => ⟨h.2.1, hF⟩
end Jvm.Pilot.@@N@@
namespace Jvm.Pilot.@@N@@
open Jvm Jvm.ClassFile Sem Op Lib Jvm.Free Jvm.Stand Jvm.Pilot.@@N@@.Jvm.D
/-! MADE BY PROGRAM (witnessworld.py) out of the Statement's table words and the real class files: 12 classes; the members and pool entries that the words name. The judged class is class 1, her method 7. -/
namespace start1
open Jvm.ClassFile
def u (s : String) : CpInfo := .utf8 (stringToUtf16 s)
/-- a pool by its gaps: so many unusable entries, then the entry; so many at the end -/
def gap : Nat → List CpInfo → List CpInfo
  | 0, r => r
  | n + 1, r => .unusable :: gap n r
def poolList (es : List (Nat × CpInfo)) (last : Nat) : List CpInfo := es.foldr (fun e r => gap e.1 (e.2 :: r)) (gap last [])
def pool (es : List (Nat × CpInfo)) (last : Nat) : Array CpInfo := ⟨poolList es last⟩
def fileOf (pool : Array CpInfo) (this : Nat) (attrs : Array Attribute := #[]) (ms : Array MethodInfo := #[]) (fl : Nat := 33) (sup : Nat := 0) (ifs : Array Nat := #[]) (fds : Array FieldInfo := #[]) : ClassFile where
  minorVersion := 0
  majorVersion := 65
  constantPool := pool
  accessFlags := fl
  thisClass := this
  superClass := sup
  interfaces := ifs
  fields := fds
  methods := ms
  attributes := attrs
def plain (name : String) (sup : Option ClassId) : Class where
  name := name
  kind := .ordinary
  loader := none
  accessFlags := 33
  super := sup
  interfaces := #[]
  cf := none
  fields := #[]
  methods := #[]
  instanceTypes := #[]
  staticTypes := #[]
  resolved := #[]
  callSites := []
  init := .initialized
  statics := none
  mirror := none

def pool0 : Array CpInfo := pool [(5, u "<init>"), (0, u "()V"), (1, .class_ 10), (1, u "java/lang/Object")] 113

def k0c0 : Code := { maxStack := 0, maxLocals := 1, code := object_method_1_code, exceptionTable := #[], attributes := #[] }
def k0m0 : Method := { name := "<init>", desc := "()V", sig := { parameters := [], returnType := none }, accessFlags := 1, code := some k0c0 }
/-- java/lang/Object -/
def k0 : Class := { plain "java/lang/Object" none with
  accessFlags := 33
  interfaces := #[]
  cf := some (fileOf pool0 8 #[] #[{ accessFlags := 1, nameIndex := 5, descriptorIndex := 6, attributes := #[] }] 33 0 #[] #[])
  fields := #[]
  methods := #[k0m0]
  instanceTypes := #[]
  staticTypes := #[]
  resolved := Array.replicate 124 none
  statics := none }

def pool1 : Array CpInfo := pool [(2, .class_ 4), (0, .nameAndType 5 6), (0, u "java/lang/Object"), (0, u "<init>"), (0, u "()V"), (0, .integer 2147483647), (0, .methodref 9 10), (0, .class_ 11), (0, .nameAndType 12 13), (0, u "java/lang/Math"), (0, u "max"), (0, u "(II)I"), (0, .methodref 15 16), (0, .class_ 17), (0, .nameAndType 18 19), (0, u "com/example/bare_triage/baretriage/rank/TurnsTakePinLaw"), (0, u "cx"), (0, u "([I[III)V"), (0, .methodref 21 22), (0, .class_ 23), (0, .nameAndType 24 25), (0, u "com/example/bare_triage/baretriage/rank/Turns"), (0, u "take"), (0, u "()I"), (0, .methodref 21 27), (0, .nameAndType 28 25), (0, u "round"), (0, .methodref 15 30), (0, .nameAndType 31 32), (0, u "rd"), (0, u "(J)I"), (0, .methodref 15 34), (0, .nameAndType 35 32), (0, u "ps"), (0, .methodref 21 3), (0, .methodref 21 38), (0, .nameAndType 39 40), (0, u "add"), (0, u "(II)V"), (0, .methodref 15 42), (0, .nameAndType 43 44), (0, u "even"), (0, u "([I[I)V"), (0, .methodref 15 46), (0, .nameAndType 47 44), (0, u "odd"), (0, .methodref 15 49), (0, .nameAndType 50 51), (0, u "check"), (0, u "(Lcom/example/bare_triage/baretriage/rank/Turns;II)Z"), (0, .methodref 21 53), (0, .nameAndType 54 55), (0, u "isEmpty"), (0, u "()Z"), (3, u "law"), (0, u "(JJJJJJ)Z")] 4

def k1m0 : Method := { name := "<init>", desc := "()V", sig := { parameters := [], returnType := none }, accessFlags := 1, code := none }
def k1c1 : Code := { maxStack := 4, maxLocals := 2, code := method_2_code, exceptionTable := #[], attributes := #[] }
def k1m1 : Method := { name := "rd", desc := "(J)I", sig := { parameters := [.long], returnType := some .int }, accessFlags := 10, code := some k1c1 }
def k1c2 : Code := { maxStack := 2, maxLocals := 2, code := method_3_code, exceptionTable := #[], attributes := #[] }
def k1m2 : Method := { name := "ps", desc := "(J)I", sig := { parameters := [.long], returnType := some .int }, accessFlags := 10, code := some k1c2 }
def k1c3 : Code := { maxStack := 4, maxLocals := 6, code := method_4_code, exceptionTable := #[], attributes := #[] }
def k1m3 : Method := { name := "cx", desc := "([I[III)V", sig := { parameters := [(.array .int), (.array .int), .int, .int], returnType := none }, accessFlags := 10, code := some k1c3 }
def k1c4 : Code := { maxStack := 4, maxLocals := 2, code := method_5_code, exceptionTable := #[], attributes := #[] }
def k1m4 : Method := { name := "even", desc := "([I[I)V", sig := { parameters := [(.array .int), (.array .int)], returnType := none }, accessFlags := 10, code := some k1c4 }
def k1c5 : Code := { maxStack := 4, maxLocals := 2, code := method_6_code, exceptionTable := #[], attributes := #[] }
def k1m5 : Method := { name := "odd", desc := "([I[I)V", sig := { parameters := [(.array .int), (.array .int)], returnType := none }, accessFlags := 10, code := some k1c5 }
def k1c6 : Code := { maxStack := 2, maxLocals := 4, code := method_7_code, exceptionTable := #[], attributes := #[] }
def k1m6 : Method := { name := "check", desc := "(Lcom/example/bare_triage/baretriage/rank/Turns;II)Z", sig := { parameters := [(.object "com/example/bare_triage/baretriage/rank/Turns"), .int, .int], returnType := some .boolean }, accessFlags := 10, code := some k1c6 }
def k1c7 : Code := { maxStack := 4, maxLocals := 16, code := code, exceptionTable := #[], attributes := #[] }
def k1m7 : Method := { name := "law", desc := "(JJJJJJ)Z", sig := { parameters := [.long, .long, .long, .long, .long, .long], returnType := some .boolean }, accessFlags := 9, code := some k1c7 }
/-- com/example/bare_triage/baretriage/rank/TurnsTakePinLaw -/
def k1 : Class := { plain "com/example/bare_triage/baretriage/rank/TurnsTakePinLaw" (some 0) with
  accessFlags := 49
  interfaces := #[]
  cf := some (fileOf pool1 15 #[] #[{ accessFlags := 1, nameIndex := 5, descriptorIndex := 6, attributes := #[] }, { accessFlags := 10, nameIndex := 31, descriptorIndex := 32, attributes := #[] }, { accessFlags := 10, nameIndex := 35, descriptorIndex := 32, attributes := #[] }, { accessFlags := 10, nameIndex := 18, descriptorIndex := 19, attributes := #[] }, { accessFlags := 10, nameIndex := 43, descriptorIndex := 44, attributes := #[] }, { accessFlags := 10, nameIndex := 47, descriptorIndex := 44, attributes := #[] }, { accessFlags := 10, nameIndex := 50, descriptorIndex := 51, attributes := #[] }, { accessFlags := 9, nameIndex := 59, descriptorIndex := 60, attributes := #[] }] 49 2 #[] #[])
  fields := #[]
  methods := #[k1m0, k1m1, k1m2, k1m3, k1m4, k1m5, k1m6, k1m7]
  instanceTypes := #[]
  staticTypes := #[]
  resolved := Array.replicate 65 none
  statics := none }

def pool2 : Array CpInfo := pool [(1, .class_ 2), (0, u "java/lang/Math"), (1, .class_ 6), (1, u "java/lang/Object"), (0, u "<init>"), (0, u "()V"), (89, .class_ 100), (1, u "java/lang/Math$RandomNumberGeneratorHolder"), (71, u "negativeZeroFloatBits"), (0, u "J"), (2, u "negativeZeroDoubleBits"), (21, u "max"), (46, u "$assertionsDisabled"), (0, u "Z"), (88, u "(II)I"), (2, u "twoToTheDoubleScaleDown"), (0, u "D"), (4, u "twoToTheDoubleScaleUp"), (9, u "E"), (3, u "PI"), (2, u "TAU"), (2, u "DEGREES_TO_RADIANS"), (0, u "RADIANS_TO_DEGREES")] 94

def k2m0 : Method := { name := "<init>", desc := "()V", sig := { parameters := [], returnType := none }, accessFlags := 2, code := none }
def k2c1 : Code := { maxStack := 2, maxLocals := 2, code := jdk_29_method_65_code, exceptionTable := #[], attributes := #[] }
def k2m1 : Method := { name := "max", desc := "(II)I", sig := { parameters := [.int, .int], returnType := some .int }, accessFlags := 9, code := some k2c1 }
/-- java/lang/Math -/
def k2 : Class := { plain "java/lang/Math" (some 0) with
  accessFlags := 49
  interfaces := #[]
  cf := some (fileOf pool2 1 #[.nestMembers #[98]] #[{ accessFlags := 2, nameIndex := 7, descriptorIndex := 8, attributes := #[] }, { accessFlags := 9, nameIndex := 198, descriptorIndex := 335, attributes := #[] }] 49 4 #[] #[{ accessFlags := 25, nameIndex := 354, descriptorIndex := 339, attributes := #[] }, { accessFlags := 25, nameIndex := 358, descriptorIndex := 339, attributes := #[] }, { accessFlags := 25, nameIndex := 361, descriptorIndex := 339, attributes := #[] }, { accessFlags := 26, nameIndex := 364, descriptorIndex := 339, attributes := #[] }, { accessFlags := 26, nameIndex := 365, descriptorIndex := 339, attributes := #[] }, { accessFlags := 26, nameIndex := 172, descriptorIndex := 173, attributes := #[] }, { accessFlags := 26, nameIndex := 176, descriptorIndex := 173, attributes := #[] }, { accessFlags := 8, nameIndex := 344, descriptorIndex := 339, attributes := #[] }, { accessFlags := 8, nameIndex := 338, descriptorIndex := 339, attributes := #[] }, { accessFlags := 4120, nameIndex := 245, descriptorIndex := 246, attributes := #[] }])
  fields := #[{ name := "E", type := .double, accessFlags := 25, slot := 0, constantValue := 0 }, { name := "PI", type := .double, accessFlags := 25, slot := 1, constantValue := 0 }, { name := "TAU", type := .double, accessFlags := 25, slot := 2, constantValue := 0 }, { name := "DEGREES_TO_RADIANS", type := .double, accessFlags := 26, slot := 3, constantValue := 0 }, { name := "RADIANS_TO_DEGREES", type := .double, accessFlags := 26, slot := 4, constantValue := 0 }, { name := "negativeZeroFloatBits", type := .long, accessFlags := 26, slot := 5, constantValue := 0 }, { name := "negativeZeroDoubleBits", type := .long, accessFlags := 26, slot := 6, constantValue := 0 }, { name := "twoToTheDoubleScaleUp", type := .double, accessFlags := 8, slot := 7, constantValue := 0 }, { name := "twoToTheDoubleScaleDown", type := .double, accessFlags := 8, slot := 8, constantValue := 0 }, { name := "$assertionsDisabled", type := .boolean, accessFlags := 4120, slot := 9, constantValue := 0 }]
  methods := #[k2m0, k2m1]
  instanceTypes := #[]
  staticTypes := #[.double, .double, .double, .double, .double, .long, .long, .double, .double, .boolean]
  resolved := Array.replicate 460 none
  statics := none }

def pool3 : Array CpInfo := pool [(1, .methodref 2 3), (0, .class_ 4), (0, .nameAndType 5 6), (0, u "java/lang/Object"), (0, u "<init>"), (0, u "()V"), (0, .fieldref 8 9), (0, .class_ 10), (0, .nameAndType 11 12), (0, u "com/example/bare_triage/baretriage/rank/Turns"), (0, u "waiting"), (0, u "[J"), (0, .fieldref 8 14), (0, .nameAndType 15 16), (0, u "count"), (0, u "I"), (6, .fieldref 8 24), (0, .nameAndType 25 16), (0, u "round"), (2, u "add"), (0, u "(II)V"), (1, u "isEmpty"), (0, u "()Z"), (0, u "take"), (0, u "()I")] 2

def k3c0 : Code := { maxStack := 2, maxLocals := 1, code := prog_21_method_1_code, exceptionTable := #[], attributes := #[] }
def k3m0 : Method := { name := "<init>", desc := "()V", sig := { parameters := [], returnType := none }, accessFlags := 0, code := some k3c0 }
def k3c1 : Code := { maxStack := 5, maxLocals := 6, code := prog_21_method_2_code, exceptionTable := #[], attributes := #[] }
def k3m1 : Method := { name := "add", desc := "(II)V", sig := { parameters := [.int, .int], returnType := none }, accessFlags := 0, code := some k3c1 }
def k3c2 : Code := { maxStack := 1, maxLocals := 1, code := prog_21_method_3_code, exceptionTable := #[], attributes := #[] }
def k3m2 : Method := { name := "isEmpty", desc := "()Z", sig := { parameters := [], returnType := some .boolean }, accessFlags := 0, code := some k3c2 }
def k3c3 : Code := { maxStack := 4, maxLocals := 7, code := prog_21_method_4_code, exceptionTable := #[], attributes := #[] }
def k3m3 : Method := { name := "take", desc := "()I", sig := { parameters := [], returnType := some .int }, accessFlags := 0, code := some k3c3 }
def k3c4 : Code := { maxStack := 1, maxLocals := 1, code := prog_21_method_5_code, exceptionTable := #[], attributes := #[] }
def k3m4 : Method := { name := "round", desc := "()I", sig := { parameters := [], returnType := some .int }, accessFlags := 0, code := some k3c4 }
/-- com/example/bare_triage/baretriage/rank/Turns -/
def k3 : Class := { plain "com/example/bare_triage/baretriage/rank/Turns" (some 0) with
  accessFlags := 48
  interfaces := #[]
  cf := some (fileOf pool3 8 #[] #[{ accessFlags := 0, nameIndex := 5, descriptorIndex := 6, attributes := #[] }, { accessFlags := 0, nameIndex := 28, descriptorIndex := 29, attributes := #[] }, { accessFlags := 0, nameIndex := 31, descriptorIndex := 32, attributes := #[] }, { accessFlags := 0, nameIndex := 33, descriptorIndex := 34, attributes := #[] }, { accessFlags := 0, nameIndex := 25, descriptorIndex := 34, attributes := #[] }] 48 2 #[] #[{ accessFlags := 2, nameIndex := 11, descriptorIndex := 12, attributes := #[] }, { accessFlags := 2, nameIndex := 15, descriptorIndex := 16, attributes := #[] }, { accessFlags := 2, nameIndex := 25, descriptorIndex := 16, attributes := #[] }])
  fields := #[{ name := "waiting", type := (.array .long), accessFlags := 2, slot := 0, constantValue := 0 }, { name := "count", type := .int, accessFlags := 2, slot := 1, constantValue := 0 }, { name := "round", type := .int, accessFlags := 2, slot := 2, constantValue := 0 }]
  methods := #[k3m0, k3m1, k3m2, k3m3, k3m4]
  instanceTypes := #[(.array .long), .int, .int]
  staticTypes := #[]
  resolved := Array.replicate 37 none
  statics := none }

def pool4 : Array CpInfo := pool [(1, u "java/lang/Cloneable"), (0, .class_ 1), (0, u "java/lang/Object"), (0, .class_ 3)] 3

/-- java/lang/Cloneable -/
def k4 : Class := { plain "java/lang/Cloneable" (some 0) with
  accessFlags := 1537
  interfaces := #[]
  cf := some (fileOf pool4 2 #[] #[] 1537 4 #[] #[])
  fields := #[]
  methods := #[]
  instanceTypes := #[]
  staticTypes := #[]
  resolved := Array.replicate 8 none
  statics := none }

def pool5 : Array CpInfo := pool [(1, u "java/io/Serializable"), (0, .class_ 1), (0, u "java/lang/Object"), (0, .class_ 3)] 3

/-- java/io/Serializable -/
def k5 : Class := { plain "java/io/Serializable" (some 0) with
  accessFlags := 1537
  interfaces := #[]
  cf := some (fileOf pool5 2 #[] #[] 1537 4 #[] #[])
  fields := #[]
  methods := #[]
  instanceTypes := #[]
  staticTypes := #[]
  resolved := Array.replicate 8 none
  statics := none }

/-- the primitive byte -/
def k6 : Class := { plain "byte" none with kind := .primitive 'B', accessFlags := 0x411 }
/-- [B -/
def k7 : Class := { plain "[B" (some 0) with kind := .array 6 .byte, interfaces := #[4, 5], accessFlags := 1041 }

/-- the primitive int -/
def k8 : Class := { plain "int" none with kind := .primitive 'I', accessFlags := 0x411 }
/-- [I -/
def k9 : Class := { plain "[I" (some 0) with kind := .array 8 .int, interfaces := #[4, 5], accessFlags := 1041 }

/-- the primitive long -/
def k10 : Class := { plain "long" none with kind := .primitive 'J', accessFlags := 0x411 }
/-- [J -/
def k11 : Class := { plain "[J" (some 0) with kind := .array 10 .long, interfaces := #[4, 5], accessFlags := 1041 }

def heap : Heap := #[]
def classes : Array Class := #[k0, k1, k2, k3, k4, k5, k6, k7, k8, k9, k10, k11]
def interned : List (Array UInt16 × Addr) := []
def slotsUsed : Nat := 0
def theMethod : MethodId := ⟨1, 7⟩
def args0 : Array Value := #[.long 5, .long 7, .long 9, .long 3, .long 1, .long 2]
def aboutOver (below : List Frame) : State where
  vm := { classes := classes, interned := interned.toArray }
  heap := heap
  slotsUsed := slotsUsed
  threads := #[{ frames := .invoking theMethod args0 :: below }]
def below0 : List Frame := [.native { method := ⟨0, 0⟩, args := #[] }]
def about1 : State := aboutOver below0
def p0 : Program := .bare "" "" ""
def e0 : Env := launch0.env 0 0 0
theorem w_frames : about1.frames = Frame.invoking theMethod args0 :: below0 := rfl
set_option maxRecDepth 65536 in
theorem w_args : argsFit about1.vm theMethod args0 = true := by decide +kernel
set_option maxRecDepth 65536 in
theorem w_heap : heapFits about1 = true := by decide +kernel
set_option maxRecDepth 65536 in
theorem w_runnable : about1.curStatus? = some .runnable := by decide +kernel
set_option maxRecDepth 65536 in
theorem w_alone : about1.alone = true := by decide +kernel
set_option maxRecDepth 65536 in
theorem w_named : about1.methodNamed? x = some theMethod := by decide +kernel
set_option maxRecDepth 65536 in
theorem w_hears : about1.hears theMethod below0 = true := by decide +kernel
set_option maxRecDepth 65536 in
theorem w_ripe : about1.ripe theMethod args0 below0 = true := by decide +kernel
theorem w_running : about1.status = .running := rfl
set_option maxRecDepth 65536 in
theorem w_room : about1.hasRoom e0.platform room_1 = true :=
  launch0.hasRoom_least _ room_1 (by decide +kernel) (by decide +kernel) (by decide +kernel) (by decide +kernel) (by decide +kernel) (by decide +kernel)
theorem allAtoms_all (ts : List Jvm.Cond) (a : Array Jvm.Value) (st : Jvm.State) : (allAtoms ts).before a st = ts.all (fun c => c.before a st) := by
  induction ts with
  | nil => rfl
  | cons c t ih =>
    show (Jvm.Cond.and c (allAtoms t)).before a st = _
    rw [Jvm.Cond.before_and, ih, List.all_cons]
def words1 : List Jvm.Cond := Jvm.Cond.code x code maxLocals ret :: tables_1
/-- a 'code' word, met by the world's own term for the bytes: nothing is compared byte by byte -/
theorem code_word {y : MethodName} {bytes : ByteArray} {mx : Nat} {rt : Option FieldType} {a : Array Value} {s : State} {m : MethodId} {meth : Method} {c : Code} (h1 : s.methodNamed? y = some m) (h2 : s.vm.method? m = some meth) (h3 : meth.code = some c) (h4 : c.code = bytes)
    (h5 : (c.maxLocals == mx && c.exceptionTable.isEmpty && decide (c.maxStack ≤ mostOperands) && decide (meth.sig.returnType = rt) && !meth.locks && decide (parseMethodDescriptor y.desc = some meth.sig)) = true) : (Jvm.Cond.code y bytes mx rt).before a s = true := by
  simp only [Bool.and_eq_true, beq_iff_eq, Bool.not_eq_true', decide_eq_true_eq] at h5
  obtain ⟨⟨⟨⟨⟨g1, g2⟩, g3⟩, g4⟩, g5⟩, g6⟩ := h5
  simp [Cond.before, Cond.holds, Cond.value, h1, h2, h3, h4, g1, g2, g3, g4, g5, g6]
def isCode : Jvm.Cond → Bool
  | .code _ _ _ _ => true
  | _ => false
theorem all_split {L : List Jvm.Cond} {P : Jvm.Cond → Bool} (h1 : L.all (fun c => isCode c || P c) = true) (h2 : ∀ c ∈ L.filter isCode, P c = true) : L.all P = true := by
  refine List.all_eq_true.mpr fun c hc => ?_
  have h := List.all_eq_true.mp h1 c hc
  rcases Bool.eq_false_or_eq_true (isCode c) with hi | hi
  · exact h2 c (List.mem_filter.mpr ⟨hc, hi⟩)
  · simpa [hi] using h
set_option maxRecDepth 65536 in
theorem w_c0 : (Jvm.Cond.code x code maxLocals ret).before args0 about1 = true := code_word (m := ⟨1, 7⟩) (meth := k1m7) (c := k1c7) (by decide +kernel) rfl rfl rfl (by decide +kernel)
set_option maxRecDepth 65536 in
theorem w_c1 : (Jvm.Cond.code ({ cls := "com/example/bare_triage/baretriage/rank/TurnsTakePinLaw", name := "rd", desc := "(J)I" } : Jvm.MethodName) method_2_code (2 : Nat) (Option.some Jvm.ClassFile.FieldType.int)).before args0 about1 = true := code_word (m := ⟨1, 1⟩) (meth := k1m1) (c := k1c1) (by decide +kernel) rfl rfl rfl (by decide +kernel)
set_option maxRecDepth 65536 in
theorem w_c2 : (Jvm.Cond.code ({ cls := "java/lang/Math", name := "max", desc := "(II)I" } : Jvm.MethodName) jdk_29_method_65_code (2 : Nat) (Option.some Jvm.ClassFile.FieldType.int)).before args0 about1 = true := code_word (m := ⟨2, 1⟩) (meth := k2m1) (c := k2c1) (by decide +kernel) rfl rfl rfl (by decide +kernel)
set_option maxRecDepth 65536 in
theorem w_c3 : (Jvm.Cond.code ({ cls := "com/example/bare_triage/baretriage/rank/TurnsTakePinLaw", name := "ps", desc := "(J)I" } : Jvm.MethodName) method_3_code (2 : Nat) (Option.some Jvm.ClassFile.FieldType.int)).before args0 about1 = true := code_word (m := ⟨1, 2⟩) (meth := k1m2) (c := k1c2) (by decide +kernel) rfl rfl rfl (by decide +kernel)
set_option maxRecDepth 65536 in
theorem w_c4 : (Jvm.Cond.code ({ cls := "com/example/bare_triage/baretriage/rank/Turns", name := "<init>", desc := "()V" } : Jvm.MethodName) prog_21_method_1_code (1 : Nat) (Option.none : Option Jvm.ClassFile.FieldType)).before args0 about1 = true := code_word (m := ⟨3, 0⟩) (meth := k3m0) (c := k3c0) (by decide +kernel) rfl rfl rfl (by decide +kernel)
set_option maxRecDepth 65536 in
theorem w_c5 : (Jvm.Cond.code ({ cls := "java/lang/Object", name := "<init>", desc := "()V" } : Jvm.MethodName) object_method_1_code (1 : Nat) (Option.none : Option Jvm.ClassFile.FieldType)).before args0 about1 = true := code_word (m := ⟨0, 0⟩) (meth := k0m0) (c := k0c0) (by decide +kernel) rfl rfl rfl (by decide +kernel)
set_option maxRecDepth 65536 in
theorem w_c6 : (Jvm.Cond.code ({ cls := "com/example/bare_triage/baretriage/rank/Turns", name := "add", desc := "(II)V" } : Jvm.MethodName) prog_21_method_2_code (6 : Nat) (Option.none : Option Jvm.ClassFile.FieldType)).before args0 about1 = true := code_word (m := ⟨3, 1⟩) (meth := k3m1) (c := k3c1) (by decide +kernel) rfl rfl rfl (by decide +kernel)
set_option maxRecDepth 65536 in
theorem w_c7 : (Jvm.Cond.code ({ cls := "com/example/bare_triage/baretriage/rank/TurnsTakePinLaw", name := "even", desc := "([I[I)V" } : Jvm.MethodName) method_5_code (2 : Nat) (Option.none : Option Jvm.ClassFile.FieldType)).before args0 about1 = true := code_word (m := ⟨1, 4⟩) (meth := k1m4) (c := k1c4) (by decide +kernel) rfl rfl rfl (by decide +kernel)
set_option maxRecDepth 65536 in
theorem w_c8 : (Jvm.Cond.code ({ cls := "com/example/bare_triage/baretriage/rank/TurnsTakePinLaw", name := "cx", desc := "([I[III)V" } : Jvm.MethodName) method_4_code (6 : Nat) (Option.none : Option Jvm.ClassFile.FieldType)).before args0 about1 = true := code_word (m := ⟨1, 3⟩) (meth := k1m3) (c := k1c3) (by decide +kernel) rfl rfl rfl (by decide +kernel)
set_option maxRecDepth 65536 in
theorem w_c9 : (Jvm.Cond.code ({ cls := "com/example/bare_triage/baretriage/rank/TurnsTakePinLaw", name := "odd", desc := "([I[I)V" } : Jvm.MethodName) method_6_code (2 : Nat) (Option.none : Option Jvm.ClassFile.FieldType)).before args0 about1 = true := code_word (m := ⟨1, 5⟩) (meth := k1m5) (c := k1c5) (by decide +kernel) rfl rfl rfl (by decide +kernel)
set_option maxRecDepth 65536 in
theorem w_c10 : (Jvm.Cond.code ({ cls := "com/example/bare_triage/baretriage/rank/TurnsTakePinLaw", name := "check", desc := "(Lcom/example/bare_triage/baretriage/rank/Turns;II)Z" } : Jvm.MethodName) method_7_code (4 : Nat) (Option.some Jvm.ClassFile.FieldType.boolean)).before args0 about1 = true := code_word (m := ⟨1, 6⟩) (meth := k1m6) (c := k1c6) (by decide +kernel) rfl rfl rfl (by decide +kernel)
set_option maxRecDepth 65536 in
theorem w_c11 : (Jvm.Cond.code ({ cls := "com/example/bare_triage/baretriage/rank/Turns", name := "take", desc := "()I" } : Jvm.MethodName) prog_21_method_4_code (7 : Nat) (Option.some Jvm.ClassFile.FieldType.int)).before args0 about1 = true := code_word (m := ⟨3, 3⟩) (meth := k3m3) (c := k3c3) (by decide +kernel) rfl rfl rfl (by decide +kernel)
set_option maxRecDepth 65536 in
theorem w_c12 : (Jvm.Cond.code ({ cls := "com/example/bare_triage/baretriage/rank/Turns", name := "round", desc := "()I" } : Jvm.MethodName) prog_21_method_5_code (1 : Nat) (Option.some Jvm.ClassFile.FieldType.int)).before args0 about1 = true := code_word (m := ⟨3, 4⟩) (meth := k3m4) (c := k3c4) (by decide +kernel) rfl rfl rfl (by decide +kernel)
set_option maxRecDepth 65536 in
theorem w_c13 : (Jvm.Cond.code ({ cls := "com/example/bare_triage/baretriage/rank/Turns", name := "isEmpty", desc := "()Z" } : Jvm.MethodName) prog_21_method_3_code (1 : Nat) (Option.some Jvm.ClassFile.FieldType.boolean)).before args0 about1 = true := code_word (m := ⟨3, 2⟩) (meth := k3m2) (c := k3c2) (by decide +kernel) rfl rfl rfl (by decide +kernel)
def codes1 : List Jvm.Cond := [Jvm.Cond.code x code maxLocals ret, Jvm.Cond.code ({ cls := "com/example/bare_triage/baretriage/rank/TurnsTakePinLaw", name := "rd", desc := "(J)I" } : Jvm.MethodName) method_2_code (2 : Nat) (Option.some Jvm.ClassFile.FieldType.int), Jvm.Cond.code ({ cls := "java/lang/Math", name := "max", desc := "(II)I" } : Jvm.MethodName) jdk_29_method_65_code (2 : Nat) (Option.some Jvm.ClassFile.FieldType.int), Jvm.Cond.code ({ cls := "com/example/bare_triage/baretriage/rank/TurnsTakePinLaw", name := "ps", desc := "(J)I" } : Jvm.MethodName) method_3_code (2 : Nat) (Option.some Jvm.ClassFile.FieldType.int), Jvm.Cond.code ({ cls := "com/example/bare_triage/baretriage/rank/Turns", name := "<init>", desc := "()V" } : Jvm.MethodName) prog_21_method_1_code (1 : Nat) (Option.none : Option Jvm.ClassFile.FieldType), Jvm.Cond.code ({ cls := "java/lang/Object", name := "<init>", desc := "()V" } : Jvm.MethodName) object_method_1_code (1 : Nat) (Option.none : Option Jvm.ClassFile.FieldType), Jvm.Cond.code ({ cls := "com/example/bare_triage/baretriage/rank/Turns", name := "add", desc := "(II)V" } : Jvm.MethodName) prog_21_method_2_code (6 : Nat) (Option.none : Option Jvm.ClassFile.FieldType), Jvm.Cond.code ({ cls := "com/example/bare_triage/baretriage/rank/TurnsTakePinLaw", name := "even", desc := "([I[I)V" } : Jvm.MethodName) method_5_code (2 : Nat) (Option.none : Option Jvm.ClassFile.FieldType), Jvm.Cond.code ({ cls := "com/example/bare_triage/baretriage/rank/TurnsTakePinLaw", name := "cx", desc := "([I[III)V" } : Jvm.MethodName) method_4_code (6 : Nat) (Option.none : Option Jvm.ClassFile.FieldType), Jvm.Cond.code ({ cls := "com/example/bare_triage/baretriage/rank/TurnsTakePinLaw", name := "odd", desc := "([I[I)V" } : Jvm.MethodName) method_6_code (2 : Nat) (Option.none : Option Jvm.ClassFile.FieldType), Jvm.Cond.code ({ cls := "com/example/bare_triage/baretriage/rank/TurnsTakePinLaw", name := "check", desc := "(Lcom/example/bare_triage/baretriage/rank/Turns;II)Z" } : Jvm.MethodName) method_7_code (4 : Nat) (Option.some Jvm.ClassFile.FieldType.boolean), Jvm.Cond.code ({ cls := "com/example/bare_triage/baretriage/rank/Turns", name := "take", desc := "()I" } : Jvm.MethodName) prog_21_method_4_code (7 : Nat) (Option.some Jvm.ClassFile.FieldType.int), Jvm.Cond.code ({ cls := "com/example/bare_triage/baretriage/rank/Turns", name := "round", desc := "()I" } : Jvm.MethodName) prog_21_method_5_code (1 : Nat) (Option.some Jvm.ClassFile.FieldType.int), Jvm.Cond.code ({ cls := "com/example/bare_triage/baretriage/rank/Turns", name := "isEmpty", desc := "()Z" } : Jvm.MethodName) prog_21_method_3_code (1 : Nat) (Option.some Jvm.ClassFile.FieldType.boolean)]
set_option maxRecDepth 65536 in
theorem codes_eq : words1.filter isCode = codes1 := rfl
theorem w_codes : ∀ c ∈ words1.filter isCode, c.before args0 about1 = true := by
  rw [codes_eq]
  intro c hc
  simp only [codes1, List.mem_cons, List.not_mem_nil, or_false] at hc
  rcases hc with rfl | rfl | rfl | rfl | rfl | rfl | rfl | rfl | rfl | rfl | rfl | rfl | rfl | rfl
  · exact w_c0
  · exact w_c1
  · exact w_c2
  · exact w_c3
  · exact w_c4
  · exact w_c5
  · exact w_c6
  · exact w_c7
  · exact w_c8
  · exact w_c9
  · exact w_c10
  · exact w_c11
  · exact w_c12
  · exact w_c13
set_option maxRecDepth 65536 in
theorem w_t1 : (words1.take 24).all (fun c => isCode c || c.before args0 about1) = true := by decide +kernel
set_option maxRecDepth 65536 in
theorem w_t2 : ((words1.drop 24).take 24).all (fun c => isCode c || c.before args0 about1) = true := by decide +kernel
set_option maxRecDepth 65536 in
theorem w_t3 : ((words1.drop 24).drop 24).all (fun c => isCode c || c.before args0 about1) = true := by decide +kernel
theorem w_tables : (allAtoms (Jvm.Cond.code x code maxLocals ret :: tables_1)).before args0 about1 = true := by
  rw [allAtoms_all]
  show words1.all (fun c => c.before args0 about1) = true
  refine all_split ?_ w_codes
  rw [← List.take_append_drop 24 words1, List.all_append, w_t1, ← List.take_append_drop 24 (words1.drop 24), List.all_append, w_t2, w_t3]
  rfl
set_option maxRecDepth 65536 in
theorem w_case : (Jvm.Cond.and given_1 narrow_1).before args0 about1 = true := by decide +kernel
theorem w_applies : (headSpec (Jvm.Cond.code x code maxLocals ret :: tables_1) room_1).applies x e0.platform about1 = true :=
  (Spec.applies_iff w_frames).mpr ⟨w_running, w_runnable, w_alone, w_named, w_hears, w_ripe, w_room, w_tables⟩
theorem atStart : AtStart classFile x code maxLocals ret World_1 tables_1 room_1 Calls_1 rest_1 Pre_1 launch0 p0 e0 about1 theMethod args0 below0 :=
  ⟨lists_1, trivial, launch0.admits_env _ _ _, launch0.least_env, fairChoices_fair.cas, fairChoices_fair.clock, w_frames, w_args, w_heap, w_applies, trivial, trivial, w_case⟩
end start1
theorem witness_1 : WitnessClaimed_1 := ⟨start1.p0, start1.e0, start1.about1, start1.theMethod, start1.args0, start1.below0, start1.atStart⟩
end Jvm.Pilot.@@N@@
