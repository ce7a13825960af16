import JvmDerived
import JvmDerived.Pilot.@@N@@Statement
import JvmDerived.Pilot.@@N@@Code
set_option linter.unusedVariables false
set_option linter.unusedSimpArgs false
namespace Jvm.RoadKit
open Sem ClassFile Op Lib Jvm.Stand Jvm.Free Jvm.LawKit
section New
variable {p : Program} {l : Launch} {e : Env} {R : Room} {s : State} {m : MethodId} {args : Array Value} {below : List Frame} {meth : Method} {c : Code} {T : State} {locs : List Loc} {cells slots : Nat}
theorem retI (X : Stand p l e R s m args below meth c T locs cells slots) (hx : p.tables.exec = Jvm.exec) {pc : Nat} {Ls : Array Slot} {z : Int32} {rest : List Value} (hret : meth.sig.returnType = some .int) (hd : decode c.code pc = .ok (.ireturn, 1)) {fs : List Frame}
    (hl : ∀ (f : JFrame) (acts : List Action), f.method = m → f.locked = none → f.entered = [] → (doReturn e (T.setTop f) acts (some (.int z))).1 = T.setFrames fs) : Steps p.tables e below (T.setTop (mkF m pc Ls (.int z :: rest))) (T.setFrames fs) := by
  have hm' : T.vm.method? m = some meth := X.method'
  have hn : narrow .int (.int z) = .int z := rfl
  show Steps p.tables e below (T.setTop { method := m, pc := pc, locals := Ls, stack := _ :: rest, locked := none }) _
  jvm_step X.here [X.here.top, hx, hd, hm', hret, hn]
  first | (intro acts; rw [hl _ acts rfl rfl rfl]) | rw [hl _ _ rfl rfl rfl]
  exact Steps.refl _
end New
end Jvm.RoadKit
namespace Jvm.Pilot.@@N@@
open Jvm Jvm.ClassFile Sem Op Lib Jvm.Free Jvm.Stand Jvm.LawKit Jvm.RoadKit Bundle Jvm.Pilot.@@N@@.Jvm.D
section Own
variable {p : Program} {l : Launch} {e : Env} {R : Room} {s : State} {m : MethodId} {args : Array Value} {below : List Frame} {meth : Method} {c : Code} {T : State} {Z : State} {h : Heap} {n0 kc ks cells slots ml pc pc' pt : Nat} {Q : Option Value → Heap → Prop} {bc : ByteArray} {y : MethodName} {rt : Option FieldType} {L L' : Array Slot} {S : List Value} {a0 : Array Value}
def oG (p : Program) (e : Env) (below : List Frame) (s : State) (n0 kc ks : Nat) (Q : Option Value → Heap → Prop) (U : State) : Prop :=
  ∃ s₂ o, Steps p.tables e below U s₂ ∧ s₂.status = .running ∧ Ended s₂ below o ∧ ∃ v L, o = .returned v ∧ (Q v s₂.heap ∧ Fr n0 L) ∧ FrameEnd s o s₂ L kc ks
def oH (p : Program) (l : Launch) (e : Env) (R : Room) (s : State) (m : MethodId) (args : Array Value) (below : List Frame) (meth : Method) (c : Code) (bc : ByteArray) (ml : Nat) (y : MethodName) (rt : Option FieldType) (Z : State) (n0 : Nat) (T : State) (h : Heap) (cells slots : Nat) : Prop :=
  ∃ locs, Stand p l e R s m args below meth c T locs cells slots ∧ T.heap = h ∧ Fr n0 locs ∧ p.tables.exec = Jvm.exec ∧ c.code = bc ∧ c.maxLocals = ml ∧ Z.Warmed39 s.vm ∧ s.vm.findClass y.cls = some m.cls ∧ meth.name = y.name ∧ meth.sig.returnType = rt ∧ meth.locks = false ∧ n0 ≤ s.heap.size
theorem oG.go {U U' : State} (f : ∀ t, Steps p.tables e below U' t → Steps p.tables e below U t) (k : oG p e below s n0 kc ks Q U') : oG p e below s n0 kc ks Q U := by
  obtain ⟨s2, o, h1, r⟩ := k
  exact ⟨s2, o, f _ h1, r⟩
theorem oG.mono {U : State} {Q' : Option Value → Heap → Prop} (k : oG p e below s n0 kc ks Q' U) (f : ∀ v h, Q' v h → Q v h) : oG p e below s n0 kc ks Q U := by
  obtain ⟨s2, o, h1, h2, h3, v, L, h4, ⟨h5, h6⟩, h7⟩ := k
  exact ⟨s2, o, h1, h2, h3, v, L, h4, ⟨f _ _ h5, h6⟩, h7⟩
theorem oH.le (H : oH p l e R s m args below meth c bc ml y rt Z n0 T h cells slots) : n0 ≤ h.size := by
  obtain ⟨locs, X, eT, N, -, -, -, -, -, -, -, -, hn⟩ := H
  have q : s.heap.size ≤ T.heap.size := X.same.2.1
  rw [← eT]; exact Nat.le_trans hn q
theorem oH.more {cells' slots' : Nat} (H : oH p l e R s m args below meth c bc ml y rt Z n0 T h cells slots) (hc : cells ≤ cells') (hs : slots ≤ slots') : oH p l e R s m args below meth c bc ml y rt Z n0 T h cells' slots' := by
  obtain ⟨locs, X, r⟩ := H
  exact ⟨locs, X.more hc hs, r⟩
/-- a method's contract: called with these arguments at the heap h0 it comes back with Q, within the room -/
def oC (l : Launch) (Z : State) (n0 : Nat) (y : MethodName) (bc : ByteArray) (ml : Nat) (rt : Option FieldType) (rm : Room) (kc ks : Nat) (as' : Array Value) (h0 : Heap) (Q : Option Value → Heap → Prop) : Prop :=
  ∀ ws : List Jvm.Cond, MetFree l y (head1 (Jvm.Cond.code y bc ml rt :: ws) rm) (fun a U => a = as' ∧ Z.Warmed39 U.vm ∧ U.heap = h0) (fun _ _ _ _ _ => True) (fun _ U o U' => ∃ v L, o = .returned v ∧ (Q v U'.heap ∧ Fr n0 L) ∧ FrameEnd U o U' L kc ks)
theorem oC.of {rm : Room} {as' : Array Value} {h0 : Heap} (hpl : plainFor y = true) (hn : n0 ≤ h0.size) (hef : ∀ m, entryFrame m as' ml = mkF m 0 L [])
    (body : ∀ (p : Program) (e : Env) (s : State) (m : MethodId) (below : List Frame) (meth : Method) (c : Code) (T : State), oH p l e rm s m as' below meth c bc ml y rt Z n0 T h0 0 0 → oG p e below s n0 kc ks Q (T.setTop (mkF m 0 L []))) : oC l Z n0 y bc ml rt rm kc ks as' h0 Q := by
  intro ws
  refine MetFree.of_bodySF hpl hisR ?_
  intro p e s m args below meth c s₁ Bd hml0 hP hK
  obtain ⟨rfl, hZ, hh⟩ := hP
  have X0 : Stand p l e rm s m args below meth c s₁ [] 0 0 := Stand.of_body Bd
  have e0 : s₁.heap = h0 := by rw [← hh, Bd.state]; rfl
  have k := body p e s m below meth c s₁ ⟨[], X0, e0, Fr.nil n0, Bd.exec, Bd.bytes, hml0, hZ, findClass_of_methodNamed Bd.named, (name_of_methodNamed Bd.named Bd.method).1, Bd.returns, Bd.notSynchronized, by rw [hh]; exact hn⟩
  rw [hef m]; exact k
theorem oC.mono {rm : Room} {as' : Array Value} {h0 : Heap} {Q' : Option Value → Heap → Prop} (k : oC l Z n0 y bc ml rt rm kc ks as' h0 Q') (f : ∀ v h, Q' v h → Q v h) : oC l Z n0 y bc ml rt rm kc ks as' h0 Q := by
  intro ws p e h1 h2 h3 s m args below h4 h5 h6 h7
  obtain ⟨n, o, a1, a2, a3, v, L, a4, ⟨a5, a6⟩, a7⟩ := k ws p e h1 h2 h3 s m args below h4 h5 h6 h7
  exact ⟨n, o, a1, a2, a3, v, L, a4, ⟨f _ _ a5, a6⟩, a7⟩
theorem o_aloadN (H : oH p l e R s m args below meth c bc ml y rt Z n0 T h cells slots) {k : Fin 4} {v : Value} (hl : L[k.val]? = some (.val v)) (hv : v.isRef = true) (hd : decode bc pc = .ok (.aload_n k, 1)) (hp : pc + 1 = pc') (k : oG p e below s n0 kc ks Q (T.setTop (mkF m pc' L (v :: S)))) : oG p e below s n0 kc ks Q (T.setTop (mkF m pc L S)) := by
  obtain ⟨locs, X, eT, N, hx, hby, hml, hZ, hown, hnm, hret, hlk, hn⟩ := H
  subst hp
  exact oG.go (fun t hr => XS.aloadN X.here hx rfl (hb hby hd) hl hv hr) k
theorem o_iloadN (H : oH p l e R s m args below meth c bc ml y rt Z n0 T h cells slots) {k : Fin 4} {v : Int32} (hl : L[k.val]? = some (.val (.int v))) (hd : decode bc pc = .ok (.iload_n k, 1)) (hp : pc + 1 = pc') (k : oG p e below s n0 kc ks Q (T.setTop (mkF m pc' L (.int v :: S)))) : oG p e below s n0 kc ks Q (T.setTop (mkF m pc L S)) := by
  obtain ⟨locs, X, eT, N, hx, hby, hml, hZ, hown, hnm, hret, hlk, hn⟩ := H
  subst hp
  exact oG.go (fun t hr => XS.iloadN X.here hx rfl (hb hby hd) hl hr) k
theorem o_lloadN (H : oH p l e R s m args below meth c bc ml y rt Z n0 T h cells slots) {k : Fin 4} {v : Int64} (hl : L[k.val]? = some (.val (.long v))) (hd : decode bc pc = .ok (.lload_n k, 1)) (hp : pc + 1 = pc') (k : oG p e below s n0 kc ks Q (T.setTop (mkF m pc' L (.long v :: S)))) : oG p e below s n0 kc ks Q (T.setTop (mkF m pc L S)) := by
  obtain ⟨locs, X, eT, N, hx, hby, hml, hZ, hown, hnm, hret, hlk, hn⟩ := H
  subst hp
  exact oG.go (fun t hr => XT.lloadN X.here hx rfl (hb hby hd) hl hr) k
theorem o_astoreN (H : oH p l e R s m args below meth c bc ml y rt Z n0 T h cells slots) {k : Fin 4} {v : Value} (hl : storeLocals L k.val v = some L') (hv : v.isRef = true) (hd : decode bc pc = .ok (.astore_n k, 1)) (hp : pc + 1 = pc') (k : oG p e below s n0 kc ks Q (T.setTop (mkF m pc' L' S))) : oG p e below s n0 kc ks Q (T.setTop (mkF m pc L (v :: S))) := by
  obtain ⟨locs, X, eT, N, hx, hby, hml, hZ, hown, hnm, hret, hlk, hn⟩ := H
  subst hp
  exact oG.go (fun t hr => XS.astoreN X.here hx rfl (hb hby hd) rfl hv hl hr) k
theorem o_istoreN (H : oH p l e R s m args below meth c bc ml y rt Z n0 T h cells slots) {k : Fin 4} {v : Int32} (hl : storeLocals L k.val (.int v) = some L') (hd : decode bc pc = .ok (.istore_n k, 1)) (hp : pc + 1 = pc') (k : oG p e below s n0 kc ks Q (T.setTop (mkF m pc' L' S))) : oG p e below s n0 kc ks Q (T.setTop (mkF m pc L (.int v :: S))) := by
  obtain ⟨locs, X, eT, N, hx, hby, hml, hZ, hown, hnm, hret, hlk, hn⟩ := H
  subst hp
  exact oG.go (fun t hr => XS.istoreN X.here hx rfl (hb hby hd) rfl hl hr) k
theorem o_lstoreN (H : oH p l e R s m args below meth c bc ml y rt Z n0 T h cells slots) {k : Fin 4} {v : Int64} (hl : storeLocals L k.val (.long v) = some L') (hd : decode bc pc = .ok (.lstore_n k, 1)) (hp : pc + 1 = pc') (k : oG p e below s n0 kc ks Q (T.setTop (mkF m pc' L' S))) : oG p e below s n0 kc ks Q (T.setTop (mkF m pc L (.long v :: S))) := by
  obtain ⟨locs, X, eT, N, hx, hby, hml, hZ, hown, hnm, hret, hlk, hn⟩ := H
  subst hp
  exact oG.go (fun t hr => XT.lstoreN X.here hx rfl (hb hby hd) rfl hl hr) k
theorem o_aload (H : oH p l e R s m args below meth c bc ml y rt Z n0 T h cells slots) {k : Nat} {v : Value} (hl : L[k]? = some (.val v)) (hv : v.isRef = true) (hd : decode bc pc = .ok (.aload k, 2)) (hp : pc + 2 = pc') (k : oG p e below s n0 kc ks Q (T.setTop (mkF m pc' L (v :: S)))) : oG p e below s n0 kc ks Q (T.setTop (mkF m pc L S)) := by
  obtain ⟨locs, X, eT, N, hx, hby, hml, hZ, hown, hnm, hret, hlk, hn⟩ := H
  subst hp
  exact oG.go (fun t hr => XS.aload X.here hx rfl (hb hby hd) hl hv hr) k
theorem o_iload (H : oH p l e R s m args below meth c bc ml y rt Z n0 T h cells slots) {k : Nat} {v : Int32} (hl : L[k]? = some (.val (.int v))) (hd : decode bc pc = .ok (.iload k, 2)) (hp : pc + 2 = pc') (k : oG p e below s n0 kc ks Q (T.setTop (mkF m pc' L (.int v :: S)))) : oG p e below s n0 kc ks Q (T.setTop (mkF m pc L S)) := by
  obtain ⟨locs, X, eT, N, hx, hby, hml, hZ, hown, hnm, hret, hlk, hn⟩ := H
  subst hp
  exact oG.go (fun t hr => XS.iload X.here hx rfl (hb hby hd) hl hr) k
theorem o_lload (H : oH p l e R s m args below meth c bc ml y rt Z n0 T h cells slots) {k : Nat} {v : Int64} (hl : L[k]? = some (.val (.long v))) (hd : decode bc pc = .ok (.lload k, 2)) (hp : pc + 2 = pc') (k : oG p e below s n0 kc ks Q (T.setTop (mkF m pc' L (.long v :: S)))) : oG p e below s n0 kc ks Q (T.setTop (mkF m pc L S)) := by
  obtain ⟨locs, X, eT, N, hx, hby, hml, hZ, hown, hnm, hret, hlk, hn⟩ := H
  subst hp
  exact oG.go (fun t hr => XT.lload X.here hx rfl (hb hby hd) hl hr) k
theorem o_astore (H : oH p l e R s m args below meth c bc ml y rt Z n0 T h cells slots) {k : Nat} {v : Value} (hl : storeLocals L k v = some L') (hv : v.isRef = true) (hd : decode bc pc = .ok (.astore k, 2)) (hp : pc + 2 = pc') (k : oG p e below s n0 kc ks Q (T.setTop (mkF m pc' L' S))) : oG p e below s n0 kc ks Q (T.setTop (mkF m pc L (v :: S))) := by
  obtain ⟨locs, X, eT, N, hx, hby, hml, hZ, hown, hnm, hret, hlk, hn⟩ := H
  subst hp
  exact oG.go (fun t hr => XS.astore X.here hx rfl (hb hby hd) rfl hv hl hr) k
theorem o_istore (H : oH p l e R s m args below meth c bc ml y rt Z n0 T h cells slots) {k : Nat} {v : Int32} (hl : storeLocals L k (.int v) = some L') (hd : decode bc pc = .ok (.istore k, 2)) (hp : pc + 2 = pc') (k : oG p e below s n0 kc ks Q (T.setTop (mkF m pc' L' S))) : oG p e below s n0 kc ks Q (T.setTop (mkF m pc L (.int v :: S))) := by
  obtain ⟨locs, X, eT, N, hx, hby, hml, hZ, hown, hnm, hret, hlk, hn⟩ := H
  subst hp
  exact oG.go (fun t hr => XS.istore X.here hx rfl (hb hby hd) rfl hl hr) k
theorem o_lstore (H : oH p l e R s m args below meth c bc ml y rt Z n0 T h cells slots) {k : Nat} {v : Int64} (hl : storeLocals L k (.long v) = some L') (hd : decode bc pc = .ok (.lstore k, 2)) (hp : pc + 2 = pc') (k : oG p e below s n0 kc ks Q (T.setTop (mkF m pc' L' S))) : oG p e below s n0 kc ks Q (T.setTop (mkF m pc L (.long v :: S))) := by
  obtain ⟨locs, X, eT, N, hx, hby, hml, hZ, hown, hnm, hret, hlk, hn⟩ := H
  subst hp
  exact oG.go (fun t hr => XT.lstore X.here hx rfl (hb hby hd) rfl hl hr) k
theorem o_iconst (H : oH p l e R s m args below meth c bc ml y rt Z n0 T h cells slots) {i : Int} (v : Int32) (hv : Int32.ofInt i = v) (hd : decode bc pc = .ok (.iconst i, 1)) (hp : pc + 1 = pc') (k : oG p e below s n0 kc ks Q (T.setTop (mkF m pc' L (.int v :: S)))) : oG p e below s n0 kc ks Q (T.setTop (mkF m pc L S)) := by
  obtain ⟨locs, X, eT, N, hx, hby, hml, hZ, hown, hnm, hret, hlk, hn⟩ := H
  subst hp
  exact oG.go (fun t hr => XT.iconstV X.here hx rfl v (hb hby hd) hv hr) k
theorem o_bipush (H : oH p l e R s m args below meth c bc ml y rt Z n0 T h cells slots) {i : Int} (v : Int32) (hv : (Int8.ofInt i).toInt32 = v) (hd : decode bc pc = .ok (.bipush i, 2)) (hp : pc + 2 = pc') (k : oG p e below s n0 kc ks Q (T.setTop (mkF m pc' L (.int v :: S)))) : oG p e below s n0 kc ks Q (T.setTop (mkF m pc L S)) := by
  obtain ⟨locs, X, eT, N, hx, hby, hml, hZ, hown, hnm, hret, hlk, hn⟩ := H
  subst hp
  exact oG.go (fun t hr => XT.bipushV X.here hx rfl v (hb hby hd) hv hr) k
theorem o_sipush (H : oH p l e R s m args below meth c bc ml y rt Z n0 T h cells slots) {i : Int} (v : Int32) (hv : (Int16.ofInt i).toInt32 = v) (hd : decode bc pc = .ok (.sipush i, 3)) (hp : pc + 3 = pc') (k : oG p e below s n0 kc ks Q (T.setTop (mkF m pc' L (.int v :: S)))) : oG p e below s n0 kc ks Q (T.setTop (mkF m pc L S)) := by
  obtain ⟨locs, X, eT, N, hx, hby, hml, hZ, hown, hnm, hret, hlk, hn⟩ := H
  subst hp
  exact oG.go (fun t hr => XT.sipushV X.here hx rfl v (hb hby hd) hv hr) k
theorem o_lconst (H : oH p l e R s m args below meth c bc ml y rt Z n0 T h cells slots) {i : Fin 2} (v : Int64) (hv : Int64.ofNat i = v) (hd : decode bc pc = .ok (.lconst i, 1)) (hp : pc + 1 = pc') (k : oG p e below s n0 kc ks Q (T.setTop (mkF m pc' L (.long v :: S)))) : oG p e below s n0 kc ks Q (T.setTop (mkF m pc L S)) := by
  obtain ⟨locs, X, eT, N, hx, hby, hml, hZ, hown, hnm, hret, hlk, hn⟩ := H
  subst hp
  exact oG.go (fun t hr => XT.lconstV X.here hx rfl v (hb hby hd) hv hr) k
theorem o_aconst_null (H : oH p l e R s m args below meth c bc ml y rt Z n0 T h cells slots)   (hd : decode bc pc = .ok (.aconst_null, 1)) (hp : pc + 1 = pc') (k : oG p e below s n0 kc ks Q (T.setTop (mkF m pc' L (.null :: S)))) : oG p e below s n0 kc ks Q (T.setTop (mkF m pc L S)) := by
  obtain ⟨locs, X, eT, N, hx, hby, hml, hZ, hown, hnm, hret, hlk, hn⟩ := H
  subst hp
  exact oG.go (fun t hr => XS.aconstNull X.here hx rfl (hb hby hd) hr) k
theorem o_iadd (H : oH p l e R s m args below meth c bc ml y rt Z n0 T h cells slots) {x z : Int32}  (hd : decode bc pc = .ok (.iadd, 1)) (hp : pc + 1 = pc') (k : oG p e below s n0 kc ks Q (T.setTop (mkF m pc' L (.int (x + z) :: S)))) : oG p e below s n0 kc ks Q (T.setTop (mkF m pc L (.int z :: .int x :: S))) := by
  obtain ⟨locs, X, eT, N, hx, hby, hml, hZ, hown, hnm, hret, hlk, hn⟩ := H
  subst hp
  exact oG.go (fun t hr => XS.iadd X.here hx rfl (hb hby hd) rfl hr) k
theorem o_isub (H : oH p l e R s m args below meth c bc ml y rt Z n0 T h cells slots) {x z : Int32}  (hd : decode bc pc = .ok (.isub, 1)) (hp : pc + 1 = pc') (k : oG p e below s n0 kc ks Q (T.setTop (mkF m pc' L (.int (x - z) :: S)))) : oG p e below s n0 kc ks Q (T.setTop (mkF m pc L (.int z :: .int x :: S))) := by
  obtain ⟨locs, X, eT, N, hx, hby, hml, hZ, hown, hnm, hret, hlk, hn⟩ := H
  subst hp
  exact oG.go (fun t hr => XS.isub X.here hx rfl (hb hby hd) rfl hr) k
theorem o_imul (H : oH p l e R s m args below meth c bc ml y rt Z n0 T h cells slots) {x z : Int32}  (hd : decode bc pc = .ok (.imul, 1)) (hp : pc + 1 = pc') (k : oG p e below s n0 kc ks Q (T.setTop (mkF m pc' L (.int (x * z) :: S)))) : oG p e below s n0 kc ks Q (T.setTop (mkF m pc L (.int z :: .int x :: S))) := by
  obtain ⟨locs, X, eT, N, hx, hby, hml, hZ, hown, hnm, hret, hlk, hn⟩ := H
  subst hp
  exact oG.go (fun t hr => XS.imul X.here hx rfl (hb hby hd) rfl hr) k
theorem o_iand (H : oH p l e R s m args below meth c bc ml y rt Z n0 T h cells slots) {x z : Int32}  (hd : decode bc pc = .ok (.iand, 1)) (hp : pc + 1 = pc') (k : oG p e below s n0 kc ks Q (T.setTop (mkF m pc' L (.int (x &&& z) :: S)))) : oG p e below s n0 kc ks Q (T.setTop (mkF m pc L (.int z :: .int x :: S))) := by
  obtain ⟨locs, X, eT, N, hx, hby, hml, hZ, hown, hnm, hret, hlk, hn⟩ := H
  subst hp
  exact oG.go (fun t hr => XS.iand X.here hx rfl (hb hby hd) rfl hr) k
theorem o_ior (H : oH p l e R s m args below meth c bc ml y rt Z n0 T h cells slots) {x z : Int32}  (hd : decode bc pc = .ok (.ior, 1)) (hp : pc + 1 = pc') (k : oG p e below s n0 kc ks Q (T.setTop (mkF m pc' L (.int (x ||| z) :: S)))) : oG p e below s n0 kc ks Q (T.setTop (mkF m pc L (.int z :: .int x :: S))) := by
  obtain ⟨locs, X, eT, N, hx, hby, hml, hZ, hown, hnm, hret, hlk, hn⟩ := H
  subst hp
  exact oG.go (fun t hr => XT.ior X.here hx rfl (hb hby hd) rfl hr) k
theorem o_ixor (H : oH p l e R s m args below meth c bc ml y rt Z n0 T h cells slots) {x z : Int32}  (hd : decode bc pc = .ok (.ixor, 1)) (hp : pc + 1 = pc') (k : oG p e below s n0 kc ks Q (T.setTop (mkF m pc' L (.int (x ^^^ z) :: S)))) : oG p e below s n0 kc ks Q (T.setTop (mkF m pc L (.int z :: .int x :: S))) := by
  obtain ⟨locs, X, eT, N, hx, hby, hml, hZ, hown, hnm, hret, hlk, hn⟩ := H
  subst hp
  exact oG.go (fun t hr => XT.ixor X.here hx rfl (hb hby hd) rfl hr) k
theorem o_ishl (H : oH p l e R s m args below meth c bc ml y rt Z n0 T h cells slots) {x z : Int32}  (hd : decode bc pc = .ok (.ishl, 1)) (hp : pc + 1 = pc') (k : oG p e below s n0 kc ks Q (T.setTop (mkF m pc' L (.int (x <<< (z &&& 31)) :: S)))) : oG p e below s n0 kc ks Q (T.setTop (mkF m pc L (.int z :: .int x :: S))) := by
  obtain ⟨locs, X, eT, N, hx, hby, hml, hZ, hown, hnm, hret, hlk, hn⟩ := H
  subst hp
  exact oG.go (fun t hr => XT.ishl X.here hx rfl (hb hby hd) rfl hr) k
theorem o_ishr (H : oH p l e R s m args below meth c bc ml y rt Z n0 T h cells slots) {x z : Int32}  (hd : decode bc pc = .ok (.ishr, 1)) (hp : pc + 1 = pc') (k : oG p e below s n0 kc ks Q (T.setTop (mkF m pc' L (.int (x >>> (z &&& 31)) :: S)))) : oG p e below s n0 kc ks Q (T.setTop (mkF m pc L (.int z :: .int x :: S))) := by
  obtain ⟨locs, X, eT, N, hx, hby, hml, hZ, hown, hnm, hret, hlk, hn⟩ := H
  subst hp
  exact oG.go (fun t hr => XT.ishr X.here hx rfl (hb hby hd) rfl hr) k
theorem o_iushr (H : oH p l e R s m args below meth c bc ml y rt Z n0 T h cells slots) {x z : Int32}  (hd : decode bc pc = .ok (.iushr, 1)) (hp : pc + 1 = pc') (k : oG p e below s n0 kc ks Q (T.setTop (mkF m pc' L (.int (XT.ushr x z) :: S)))) : oG p e below s n0 kc ks Q (T.setTop (mkF m pc L (.int z :: .int x :: S))) := by
  obtain ⟨locs, X, eT, N, hx, hby, hml, hZ, hown, hnm, hret, hlk, hn⟩ := H
  subst hp
  exact oG.go (fun t hr => XT.iushr X.here hx rfl (hb hby hd) rfl hr) k
theorem o_ladd (H : oH p l e R s m args below meth c bc ml y rt Z n0 T h cells slots) {x z : Int64}  (hd : decode bc pc = .ok (.ladd, 1)) (hp : pc + 1 = pc') (k : oG p e below s n0 kc ks Q (T.setTop (mkF m pc' L (.long (x + z) :: S)))) : oG p e below s n0 kc ks Q (T.setTop (mkF m pc L (.long z :: .long x :: S))) := by
  obtain ⟨locs, X, eT, N, hx, hby, hml, hZ, hown, hnm, hret, hlk, hn⟩ := H
  subst hp
  exact oG.go (fun t hr => XT.ladd X.here hx rfl (hb hby hd) rfl hr) k
theorem o_lsub (H : oH p l e R s m args below meth c bc ml y rt Z n0 T h cells slots) {x z : Int64}  (hd : decode bc pc = .ok (.lsub, 1)) (hp : pc + 1 = pc') (k : oG p e below s n0 kc ks Q (T.setTop (mkF m pc' L (.long (x - z) :: S)))) : oG p e below s n0 kc ks Q (T.setTop (mkF m pc L (.long z :: .long x :: S))) := by
  obtain ⟨locs, X, eT, N, hx, hby, hml, hZ, hown, hnm, hret, hlk, hn⟩ := H
  subst hp
  exact oG.go (fun t hr => XT.lsub X.here hx rfl (hb hby hd) rfl hr) k
theorem o_lmul (H : oH p l e R s m args below meth c bc ml y rt Z n0 T h cells slots) {x z : Int64}  (hd : decode bc pc = .ok (.lmul, 1)) (hp : pc + 1 = pc') (k : oG p e below s n0 kc ks Q (T.setTop (mkF m pc' L (.long (x * z) :: S)))) : oG p e below s n0 kc ks Q (T.setTop (mkF m pc L (.long z :: .long x :: S))) := by
  obtain ⟨locs, X, eT, N, hx, hby, hml, hZ, hown, hnm, hret, hlk, hn⟩ := H
  subst hp
  exact oG.go (fun t hr => XT.lmul X.here hx rfl (hb hby hd) rfl hr) k
theorem o_land (H : oH p l e R s m args below meth c bc ml y rt Z n0 T h cells slots) {x z : Int64}  (hd : decode bc pc = .ok (.land, 1)) (hp : pc + 1 = pc') (k : oG p e below s n0 kc ks Q (T.setTop (mkF m pc' L (.long (x &&& z) :: S)))) : oG p e below s n0 kc ks Q (T.setTop (mkF m pc L (.long z :: .long x :: S))) := by
  obtain ⟨locs, X, eT, N, hx, hby, hml, hZ, hown, hnm, hret, hlk, hn⟩ := H
  subst hp
  exact oG.go (fun t hr => XT.land X.here hx rfl (hb hby hd) rfl hr) k
theorem o_lor (H : oH p l e R s m args below meth c bc ml y rt Z n0 T h cells slots) {x z : Int64}  (hd : decode bc pc = .ok (.lor, 1)) (hp : pc + 1 = pc') (k : oG p e below s n0 kc ks Q (T.setTop (mkF m pc' L (.long (x ||| z) :: S)))) : oG p e below s n0 kc ks Q (T.setTop (mkF m pc L (.long z :: .long x :: S))) := by
  obtain ⟨locs, X, eT, N, hx, hby, hml, hZ, hown, hnm, hret, hlk, hn⟩ := H
  subst hp
  exact oG.go (fun t hr => XT.lor X.here hx rfl (hb hby hd) rfl hr) k
theorem o_lxor (H : oH p l e R s m args below meth c bc ml y rt Z n0 T h cells slots) {x z : Int64}  (hd : decode bc pc = .ok (.lxor, 1)) (hp : pc + 1 = pc') (k : oG p e below s n0 kc ks Q (T.setTop (mkF m pc' L (.long (x ^^^ z) :: S)))) : oG p e below s n0 kc ks Q (T.setTop (mkF m pc L (.long z :: .long x :: S))) := by
  obtain ⟨locs, X, eT, N, hx, hby, hml, hZ, hown, hnm, hret, hlk, hn⟩ := H
  subst hp
  exact oG.go (fun t hr => XT.lxor X.here hx rfl (hb hby hd) rfl hr) k
theorem o_lcmp (H : oH p l e R s m args below meth c bc ml y rt Z n0 T h cells slots) {x z : Int64}  (hd : decode bc pc = .ok (.lcmp, 1)) (hp : pc + 1 = pc') (k : oG p e below s n0 kc ks Q (T.setTop (mkF m pc' L (.int (XT.cmpL x z) :: S)))) : oG p e below s n0 kc ks Q (T.setTop (mkF m pc L (.long z :: .long x :: S))) := by
  obtain ⟨locs, X, eT, N, hx, hby, hml, hZ, hown, hnm, hret, hlk, hn⟩ := H
  subst hp
  exact oG.go (fun t hr => XT.lcmp X.here hx rfl (hb hby hd) rfl hr) k
theorem o_lshl (H : oH p l e R s m args below meth c bc ml y rt Z n0 T h cells slots) {x : Int64} {z : Int32}  (hd : decode bc pc = .ok (.lshl, 1)) (hp : pc + 1 = pc') (k : oG p e below s n0 kc ks Q (T.setTop (mkF m pc' L (.long (x <<< (z.toInt64 &&& 63)) :: S)))) : oG p e below s n0 kc ks Q (T.setTop (mkF m pc L (.int z :: .long x :: S))) := by
  obtain ⟨locs, X, eT, N, hx, hby, hml, hZ, hown, hnm, hret, hlk, hn⟩ := H
  subst hp
  exact oG.go (fun t hr => XT.lshl X.here hx rfl (hb hby hd) rfl hr) k
theorem o_lshr (H : oH p l e R s m args below meth c bc ml y rt Z n0 T h cells slots) {x : Int64} {z : Int32}  (hd : decode bc pc = .ok (.lshr, 1)) (hp : pc + 1 = pc') (k : oG p e below s n0 kc ks Q (T.setTop (mkF m pc' L (.long (x >>> (z.toInt64 &&& 63)) :: S)))) : oG p e below s n0 kc ks Q (T.setTop (mkF m pc L (.int z :: .long x :: S))) := by
  obtain ⟨locs, X, eT, N, hx, hby, hml, hZ, hown, hnm, hret, hlk, hn⟩ := H
  subst hp
  exact oG.go (fun t hr => XT.lshr X.here hx rfl (hb hby hd) rfl hr) k
theorem o_lushr (H : oH p l e R s m args below meth c bc ml y rt Z n0 T h cells slots) {x : Int64} {z : Int32}  (hd : decode bc pc = .ok (.lushr, 1)) (hp : pc + 1 = pc') (k : oG p e below s n0 kc ks Q (T.setTop (mkF m pc' L (.long (XT.ushrL x z) :: S)))) : oG p e below s n0 kc ks Q (T.setTop (mkF m pc L (.int z :: .long x :: S))) := by
  obtain ⟨locs, X, eT, N, hx, hby, hml, hZ, hown, hnm, hret, hlk, hn⟩ := H
  subst hp
  exact oG.go (fun t hr => XT.lushr X.here hx rfl (hb hby hd) rfl hr) k
theorem o_idiv (H : oH p l e R s m args below meth c bc ml y rt Z n0 T h cells slots) {x z : Int32} (hz : z ≠ 0) (hd : decode bc pc = .ok (.idiv, 1)) (hp : pc + 1 = pc') (k : oG p e below s n0 kc ks Q (T.setTop (mkF m pc' L (.int (x / z) :: S)))) : oG p e below s n0 kc ks Q (T.setTop (mkF m pc L (.int z :: .int x :: S))) := by
  obtain ⟨locs, X, eT, N, hx, hby, hml, hZ, hown, hnm, hret, hlk, hn⟩ := H
  subst hp
  exact oG.go (fun t hr => XS.idiv X.here hx rfl (hb hby hd) rfl hz hr) k
theorem o_irem (H : oH p l e R s m args below meth c bc ml y rt Z n0 T h cells slots) {x z : Int32} (hz : z ≠ 0) (hd : decode bc pc = .ok (.irem, 1)) (hp : pc + 1 = pc') (k : oG p e below s n0 kc ks Q (T.setTop (mkF m pc' L (.int (x % z) :: S)))) : oG p e below s n0 kc ks Q (T.setTop (mkF m pc L (.int z :: .int x :: S))) := by
  obtain ⟨locs, X, eT, N, hx, hby, hml, hZ, hown, hnm, hret, hlk, hn⟩ := H
  subst hp
  exact oG.go (fun t hr => iremM X hx rfl (hb hby hd) rfl hz hr) k
theorem o_ineg (H : oH p l e R s m args below meth c bc ml y rt Z n0 T h cells slots) {x : Int32}  (hd : decode bc pc = .ok (.ineg, 1)) (hp : pc + 1 = pc') (k : oG p e below s n0 kc ks Q (T.setTop (mkF m pc' L (.int (-x) :: S)))) : oG p e below s n0 kc ks Q (T.setTop (mkF m pc L (.int x :: S))) := by
  obtain ⟨locs, X, eT, N, hx, hby, hml, hZ, hown, hnm, hret, hlk, hn⟩ := H
  subst hp
  exact oG.go (fun t hr => XS.ineg X.here hx rfl (hb hby hd) rfl hr) k
theorem o_lneg (H : oH p l e R s m args below meth c bc ml y rt Z n0 T h cells slots) {x : Int64}  (hd : decode bc pc = .ok (.lneg, 1)) (hp : pc + 1 = pc') (k : oG p e below s n0 kc ks Q (T.setTop (mkF m pc' L (.long (-x) :: S)))) : oG p e below s n0 kc ks Q (T.setTop (mkF m pc L (.long x :: S))) := by
  obtain ⟨locs, X, eT, N, hx, hby, hml, hZ, hown, hnm, hret, hlk, hn⟩ := H
  subst hp
  exact oG.go (fun t hr => XT.lneg X.here hx rfl (hb hby hd) rfl hr) k
theorem o_i2l (H : oH p l e R s m args below meth c bc ml y rt Z n0 T h cells slots) {x : Int32}  (hd : decode bc pc = .ok (.i2l, 1)) (hp : pc + 1 = pc') (k : oG p e below s n0 kc ks Q (T.setTop (mkF m pc' L (.long x.toInt64 :: S)))) : oG p e below s n0 kc ks Q (T.setTop (mkF m pc L (.int x :: S))) := by
  obtain ⟨locs, X, eT, N, hx, hby, hml, hZ, hown, hnm, hret, hlk, hn⟩ := H
  subst hp
  exact oG.go (fun t hr => XT.i2l X.here hx rfl (hb hby hd) rfl hr) k
theorem o_l2i (H : oH p l e R s m args below meth c bc ml y rt Z n0 T h cells slots) {x : Int64}  (hd : decode bc pc = .ok (.l2i, 1)) (hp : pc + 1 = pc') (k : oG p e below s n0 kc ks Q (T.setTop (mkF m pc' L (.int x.toInt32 :: S)))) : oG p e below s n0 kc ks Q (T.setTop (mkF m pc L (.long x :: S))) := by
  obtain ⟨locs, X, eT, N, hx, hby, hml, hZ, hown, hnm, hret, hlk, hn⟩ := H
  subst hp
  exact oG.go (fun t hr => XT.l2i X.here hx rfl (hb hby hd) rfl hr) k
theorem o_i2b (H : oH p l e R s m args below meth c bc ml y rt Z n0 T h cells slots) {x : Int32}  (hd : decode bc pc = .ok (.i2b, 1)) (hp : pc + 1 = pc') (k : oG p e below s n0 kc ks Q (T.setTop (mkF m pc' L (.int x.toInt8.toInt32 :: S)))) : oG p e below s n0 kc ks Q (T.setTop (mkF m pc L (.int x :: S))) := by
  obtain ⟨locs, X, eT, N, hx, hby, hml, hZ, hown, hnm, hret, hlk, hn⟩ := H
  subst hp
  exact oG.go (fun t hr => XT.i2b X.here hx rfl (hb hby hd) rfl hr) k
theorem o_i2c (H : oH p l e R s m args below meth c bc ml y rt Z n0 T h cells slots) {x : Int32}  (hd : decode bc pc = .ok (.i2c, 1)) (hp : pc + 1 = pc') (k : oG p e below s n0 kc ks Q (T.setTop (mkF m pc' L (.int x.toUInt32.toUInt16.toUInt32.toInt32 :: S)))) : oG p e below s n0 kc ks Q (T.setTop (mkF m pc L (.int x :: S))) := by
  obtain ⟨locs, X, eT, N, hx, hby, hml, hZ, hown, hnm, hret, hlk, hn⟩ := H
  subst hp
  exact oG.go (fun t hr => XT.i2c X.here hx rfl (hb hby hd) rfl hr) k
theorem o_i2s (H : oH p l e R s m args below meth c bc ml y rt Z n0 T h cells slots) {x : Int32}  (hd : decode bc pc = .ok (.i2s, 1)) (hp : pc + 1 = pc') (k : oG p e below s n0 kc ks Q (T.setTop (mkF m pc' L (.int x.toInt16.toInt32 :: S)))) : oG p e below s n0 kc ks Q (T.setTop (mkF m pc L (.int x :: S))) := by
  obtain ⟨locs, X, eT, N, hx, hby, hml, hZ, hown, hnm, hret, hlk, hn⟩ := H
  subst hp
  exact oG.go (fun t hr => XT.i2s X.here hx rfl (hb hby hd) rfl hr) k
theorem o_iinc (H : oH p l e R s m args below meth c bc ml y rt Z n0 T h cells slots) {j : Nat} {cst : Int} {x : Int32} (v u : Int32) (hv : Int32.ofInt cst = v) (hu : x + v = u) (hl : L[j]? = some (.val (.int x))) (hl' : storeLocals L j (.int u) = some L') (hd : decode bc pc = .ok (.iinc j cst, 3)) (hp : pc + 3 = pc') (k : oG p e below s n0 kc ks Q (T.setTop (mkF m pc' L' S))) : oG p e below s n0 kc ks Q (T.setTop (mkF m pc L S)) := by
  obtain ⟨locs, X, eT, N, hx, hby, hml, hZ, hown, hnm, hret, hlk, hn⟩ := H
  subst hp
  exact oG.go (fun t hr => XT.iincV X.here hx rfl v (hb hby hd) hv hl (hu ▸ hl') hr) k
theorem o_fold {x : Int32} (v : Int32) (hv : x = v) (k : oG p e below s n0 kc ks Q (T.setTop (mkF m pc L (.int v :: S)))) : oG p e below s n0 kc ks Q (T.setTop (mkF m pc L (.int x :: S))) := hv ▸ k
theorem o_foldJ {x : Int64} (v : Int64) (hv : x = v) (k : oG p e below s n0 kc ks Q (T.setTop (mkF m pc L (.long v :: S)))) : oG p e below s n0 kc ks Q (T.setTop (mkF m pc L (.long x :: S))) := hv ▸ k
theorem o_dup (H : oH p l e R s m args below meth c bc ml y rt Z n0 T h cells slots) {v : Value} (hc : v.category = 1) (hd : decode bc pc = .ok (.dup, 1)) (hp : pc + 1 = pc') (k : oG p e below s n0 kc ks Q (T.setTop (mkF m pc' L (v :: v :: S)))) : oG p e below s n0 kc ks Q (T.setTop (mkF m pc L (v :: S))) := by
  obtain ⟨locs, X, eT, N, hx, hby, hml, hZ, hown, hnm, hret, hlk, hn⟩ := H
  subst hp
  exact oG.go (fun t hr => XS.dup X.here hx rfl (hb hby hd) rfl hc hr) k
theorem o_dup_x1 (H : oH p l e R s m args below meth c bc ml y rt Z n0 T h cells slots) {v w : Value} (hc : v.category = 1) (hc' : w.category = 1) (hd : decode bc pc = .ok (.dup_x1, 1)) (hp : pc + 1 = pc') (k : oG p e below s n0 kc ks Q (T.setTop (mkF m pc' L (v :: w :: v :: S)))) : oG p e below s n0 kc ks Q (T.setTop (mkF m pc L (v :: w :: S))) := by
  obtain ⟨locs, X, eT, N, hx, hby, hml, hZ, hown, hnm, hret, hlk, hn⟩ := H
  subst hp
  exact oG.go (fun t hr => XT.dupX1 X.here hx rfl (hb hby hd) rfl hc hc' hr) k
theorem o_dup2 (H : oH p l e R s m args below meth c bc ml y rt Z n0 T h cells slots) {v w : Value} (hc : v.category = 1) (hc' : w.category = 1) (hd : decode bc pc = .ok (.dup2, 1)) (hp : pc + 1 = pc') (k : oG p e below s n0 kc ks Q (T.setTop (mkF m pc' L (v :: w :: v :: w :: S)))) : oG p e below s n0 kc ks Q (T.setTop (mkF m pc L (v :: w :: S))) := by
  obtain ⟨locs, X, eT, N, hx, hby, hml, hZ, hown, hnm, hret, hlk, hn⟩ := H
  subst hp
  exact oG.go (fun t hr => XT.dup2 X.here hx rfl (hb hby hd) rfl hc hc' hr) k
theorem o_dup2L (H : oH p l e R s m args below meth c bc ml y rt Z n0 T h cells slots) {v : Int64}  (hd : decode bc pc = .ok (.dup2, 1)) (hp : pc + 1 = pc') (k : oG p e below s n0 kc ks Q (T.setTop (mkF m pc' L (.long v :: .long v :: S)))) : oG p e below s n0 kc ks Q (T.setTop (mkF m pc L (.long v :: S))) := by
  obtain ⟨locs, X, eT, N, hx, hby, hml, hZ, hown, hnm, hret, hlk, hn⟩ := H
  subst hp
  exact oG.go (fun t hr => XT.dup2L X.here hx rfl (hb hby hd) rfl hr) k
theorem o_pop (H : oH p l e R s m args below meth c bc ml y rt Z n0 T h cells slots) {v : Value} (hc : v.category = 1) (hd : decode bc pc = .ok (.pop, 1)) (hp : pc + 1 = pc') (k : oG p e below s n0 kc ks Q (T.setTop (mkF m pc' L S))) : oG p e below s n0 kc ks Q (T.setTop (mkF m pc L (v :: S))) := by
  obtain ⟨locs, X, eT, N, hx, hby, hml, hZ, hown, hnm, hret, hlk, hn⟩ := H
  subst hp
  exact oG.go (fun t hr => XT.pop X.here hx rfl (hb hby hd) rfl hc hr) k
theorem o_one {i : Nat} {v : Value} {sl : Slot} (hs : L[i]? = some sl) (h1 : sl = .unset ∨ ∃ z, sl = .val (.int z)) (hv : v.category = 1) : storeLocals L i v = some (L.setIfInBounds i (.val v)) :=
  XS.store1 hs (h1.imp id fun ⟨z, q⟩ => ⟨.int z, q, rfl⟩) hv
theorem o_len {vs : List Int32} : (vs.map Value.int).length.toInt32 = Int32.ofNat vs.length := by rw [List.length_map]
theorem o_get {vs : List Int32} {i : Nat} (h : i < vs.length) : (vs.map Value.int)[i]? = some (.int (vs[i]'h)) := by simp [h]
theorem o_ofNat {n : Nat} (h : n < 2147483648) : (Int32.ofNat n).toInt = n := Int32.toInt_ofNat_of_lt (by omega)
theorem o_lenJ {vs : List Int64} : (vs.map Value.long).length.toInt32 = Int32.ofNat vs.length := by rw [List.length_map]
theorem o_getJ {vs : List Int64} {i : Nat} (h : i < vs.length) : (vs.map Value.long)[i]? = some (.long (vs[i]'h)) := by simp [h]
theorem o_succ {n : Nat} : Int32.ofNat n + 1 = Int32.ofNat (n + 1) := (Int32.ofNat_add n 1).symm
theorem o_bt {A : Prop} [Decidable A] {b : Int32} (e : b = if A then (1 : Int32) else 0) (q : ¬ b = 0) : A := by
  by_cases a : A
  · exact a
  · rw [if_neg a] at e; exact absurd e q
theorem o_bf {A : Prop} [Decidable A] {b : Int32} (e : b = if A then (1 : Int32) else 0) (q : b = 0) : ¬ A := by
  intro a
  exact absurd ((e.trans (if_pos a)).symm.trans q) (by decide)
theorem o_goto (H : oH p l e R s m args below meth c bc ml y rt Z n0 T h cells slots) {o : Int} (hd : decode bc pc = .ok (.goto o, 3)) (ho : 0 ≤ (pc : Int) + o) (hp : ((pc : Int) + o).toNat = pt) (k : oG p e below s n0 kc ks Q (T.setTop (mkF m pt L S))) : oG p e below s n0 kc ks Q (T.setTop (mkF m pc L S)) := by
  obtain ⟨locs, X, eT, N, hx, hby, hml, hZ, hown, hnm, hret, hlk, hn⟩ := H
  exact oG.go (fun t hr => XS.goto X.here hx rfl rfl (hb hby hd) ho hp hr) k
theorem o_icmp_eq (H : oH p l e R s m args below meth c bc ml y rt Z n0 T h cells slots) {o : Int} {x z : Int32} (hd : decode bc pc = .ok (.if_icmp .eq o, 3)) (ho : 0 ≤ (pc : Int) + o) (hp : ((pc : Int) + o).toNat = pt) (hp' : pc + 3 = pc') (kt : x = z → oG p e below s n0 kc ks Q (T.setTop (mkF m pt L S))) (kf : ¬ x = z → oG p e below s n0 kc ks Q (T.setTop (mkF m pc' L S))) : oG p e below s n0 kc ks Q (T.setTop (mkF m pc L (.int z :: .int x :: S))) := by
  by_cases q : x = z
  · have k := kt q
    obtain ⟨locs, X, eT, N, hx, hby, hml, hZ, hown, hnm, hret, hlk, hn⟩ := H
    exact oG.go (fun t hr => XS.icmpYes X.here hx rfl rfl (hb hby hd) rfl (XT.ii_eq_t q) ho hp hr) k
  · have k := kf q
    obtain ⟨locs, X, eT, N, hx, hby, hml, hZ, hown, hnm, hret, hlk, hn⟩ := H
    subst hp'
    exact oG.go (fun t hr => XS.icmpNo X.here hx rfl (hb hby hd) rfl (XT.ii_eq_f q) hr) k
theorem o_if_eq (H : oH p l e R s m args below meth c bc ml y rt Z n0 T h cells slots) {o : Int} {x : Int32} (hd : decode bc pc = .ok (.ifCond .eq o, 3)) (ho : 0 ≤ (pc : Int) + o) (hp : ((pc : Int) + o).toNat = pt) (hp' : pc + 3 = pc') (kt : x = 0 → oG p e below s n0 kc ks Q (T.setTop (mkF m pt L S))) (kf : ¬ x = 0 → oG p e below s n0 kc ks Q (T.setTop (mkF m pc' L S))) : oG p e below s n0 kc ks Q (T.setTop (mkF m pc L (.int x :: S))) := by
  by_cases q : x = 0
  · have k := kt q
    obtain ⟨locs, X, eT, N, hx, hby, hml, hZ, hown, hnm, hret, hlk, hn⟩ := H
    exact oG.go (fun t hr => XS.ifYes X.here hx rfl rfl (hb hby hd) rfl (XT.i0_eq_t q) ho hp hr) k
  · have k := kf q
    obtain ⟨locs, X, eT, N, hx, hby, hml, hZ, hown, hnm, hret, hlk, hn⟩ := H
    subst hp'
    exact oG.go (fun t hr => XS.ifNo X.here hx rfl (hb hby hd) rfl (XT.i0_eq_f q) hr) k
theorem o_ifl_eq (H : oH p l e R s m args below meth c bc ml y rt Z n0 T h cells slots) {o : Int} {x z : Int64} (hd : decode bc pc = .ok (.ifCond .eq o, 3)) (ho : 0 ≤ (pc : Int) + o) (hp : ((pc : Int) + o).toNat = pt) (hp' : pc + 3 = pc') (kt : x = z → oG p e below s n0 kc ks Q (T.setTop (mkF m pt L S))) (kf : ¬ x = z → oG p e below s n0 kc ks Q (T.setTop (mkF m pc' L S))) : oG p e below s n0 kc ks Q (T.setTop (mkF m pc L (.int (XT.cmpL x z) :: S))) := by
  by_cases q : x = z
  · have k := kt q
    obtain ⟨locs, X, eT, N, hx, hby, hml, hZ, hown, hnm, hret, hlk, hn⟩ := H
    exact oG.go (fun t hr => XS.ifYes X.here hx rfl rfl (hb hby hd) rfl (XT.ll_eq_t q) ho hp hr) k
  · have k := kf q
    obtain ⟨locs, X, eT, N, hx, hby, hml, hZ, hown, hnm, hret, hlk, hn⟩ := H
    subst hp'
    exact oG.go (fun t hr => XS.ifNo X.here hx rfl (hb hby hd) rfl (XT.ll_eq_f q) hr) k
theorem o_icmp_ne (H : oH p l e R s m args below meth c bc ml y rt Z n0 T h cells slots) {o : Int} {x z : Int32} (hd : decode bc pc = .ok (.if_icmp .ne o, 3)) (ho : 0 ≤ (pc : Int) + o) (hp : ((pc : Int) + o).toNat = pt) (hp' : pc + 3 = pc') (kt : ¬ x = z → oG p e below s n0 kc ks Q (T.setTop (mkF m pt L S))) (kf : x = z → oG p e below s n0 kc ks Q (T.setTop (mkF m pc' L S))) : oG p e below s n0 kc ks Q (T.setTop (mkF m pc L (.int z :: .int x :: S))) := by
  by_cases q : ¬ x = z
  · have k := kt q
    obtain ⟨locs, X, eT, N, hx, hby, hml, hZ, hown, hnm, hret, hlk, hn⟩ := H
    exact oG.go (fun t hr => XS.icmpYes X.here hx rfl rfl (hb hby hd) rfl (XT.ii_ne_t q) ho hp hr) k
  · have k := kf (Classical.not_not.mp q)
    obtain ⟨locs, X, eT, N, hx, hby, hml, hZ, hown, hnm, hret, hlk, hn⟩ := H
    subst hp'
    exact oG.go (fun t hr => XS.icmpNo X.here hx rfl (hb hby hd) rfl (XT.ii_ne_f (Classical.not_not.mp q)) hr) k
theorem o_if_ne (H : oH p l e R s m args below meth c bc ml y rt Z n0 T h cells slots) {o : Int} {x : Int32} (hd : decode bc pc = .ok (.ifCond .ne o, 3)) (ho : 0 ≤ (pc : Int) + o) (hp : ((pc : Int) + o).toNat = pt) (hp' : pc + 3 = pc') (kt : ¬ x = 0 → oG p e below s n0 kc ks Q (T.setTop (mkF m pt L S))) (kf : x = 0 → oG p e below s n0 kc ks Q (T.setTop (mkF m pc' L S))) : oG p e below s n0 kc ks Q (T.setTop (mkF m pc L (.int x :: S))) := by
  by_cases q : ¬ x = 0
  · have k := kt q
    obtain ⟨locs, X, eT, N, hx, hby, hml, hZ, hown, hnm, hret, hlk, hn⟩ := H
    exact oG.go (fun t hr => XS.ifYes X.here hx rfl rfl (hb hby hd) rfl (XT.i0_ne_t q) ho hp hr) k
  · have k := kf (Classical.not_not.mp q)
    obtain ⟨locs, X, eT, N, hx, hby, hml, hZ, hown, hnm, hret, hlk, hn⟩ := H
    subst hp'
    exact oG.go (fun t hr => XS.ifNo X.here hx rfl (hb hby hd) rfl (XT.i0_ne_f (Classical.not_not.mp q)) hr) k
theorem o_ifl_ne (H : oH p l e R s m args below meth c bc ml y rt Z n0 T h cells slots) {o : Int} {x z : Int64} (hd : decode bc pc = .ok (.ifCond .ne o, 3)) (ho : 0 ≤ (pc : Int) + o) (hp : ((pc : Int) + o).toNat = pt) (hp' : pc + 3 = pc') (kt : ¬ x = z → oG p e below s n0 kc ks Q (T.setTop (mkF m pt L S))) (kf : x = z → oG p e below s n0 kc ks Q (T.setTop (mkF m pc' L S))) : oG p e below s n0 kc ks Q (T.setTop (mkF m pc L (.int (XT.cmpL x z) :: S))) := by
  by_cases q : ¬ x = z
  · have k := kt q
    obtain ⟨locs, X, eT, N, hx, hby, hml, hZ, hown, hnm, hret, hlk, hn⟩ := H
    exact oG.go (fun t hr => XS.ifYes X.here hx rfl rfl (hb hby hd) rfl (XT.ll_ne_t q) ho hp hr) k
  · have k := kf (Classical.not_not.mp q)
    obtain ⟨locs, X, eT, N, hx, hby, hml, hZ, hown, hnm, hret, hlk, hn⟩ := H
    subst hp'
    exact oG.go (fun t hr => XS.ifNo X.here hx rfl (hb hby hd) rfl (XT.ll_ne_f (Classical.not_not.mp q)) hr) k
theorem o_icmp_lt (H : oH p l e R s m args below meth c bc ml y rt Z n0 T h cells slots) {o : Int} {x z : Int32} (hd : decode bc pc = .ok (.if_icmp .lt o, 3)) (ho : 0 ≤ (pc : Int) + o) (hp : ((pc : Int) + o).toNat = pt) (hp' : pc + 3 = pc') (kt : x < z → oG p e below s n0 kc ks Q (T.setTop (mkF m pt L S))) (kf : ¬ x < z → oG p e below s n0 kc ks Q (T.setTop (mkF m pc' L S))) : oG p e below s n0 kc ks Q (T.setTop (mkF m pc L (.int z :: .int x :: S))) := by
  by_cases q : x < z
  · have k := kt q
    obtain ⟨locs, X, eT, N, hx, hby, hml, hZ, hown, hnm, hret, hlk, hn⟩ := H
    exact oG.go (fun t hr => XS.icmpYes X.here hx rfl rfl (hb hby hd) rfl (XT.ii_lt_t q) ho hp hr) k
  · have k := kf q
    obtain ⟨locs, X, eT, N, hx, hby, hml, hZ, hown, hnm, hret, hlk, hn⟩ := H
    subst hp'
    exact oG.go (fun t hr => XS.icmpNo X.here hx rfl (hb hby hd) rfl (XT.ii_lt_f q) hr) k
theorem o_if_lt (H : oH p l e R s m args below meth c bc ml y rt Z n0 T h cells slots) {o : Int} {x : Int32} (hd : decode bc pc = .ok (.ifCond .lt o, 3)) (ho : 0 ≤ (pc : Int) + o) (hp : ((pc : Int) + o).toNat = pt) (hp' : pc + 3 = pc') (kt : x < 0 → oG p e below s n0 kc ks Q (T.setTop (mkF m pt L S))) (kf : ¬ x < 0 → oG p e below s n0 kc ks Q (T.setTop (mkF m pc' L S))) : oG p e below s n0 kc ks Q (T.setTop (mkF m pc L (.int x :: S))) := by
  by_cases q : x < 0
  · have k := kt q
    obtain ⟨locs, X, eT, N, hx, hby, hml, hZ, hown, hnm, hret, hlk, hn⟩ := H
    exact oG.go (fun t hr => XS.ifYes X.here hx rfl rfl (hb hby hd) rfl (XT.i0_lt_t q) ho hp hr) k
  · have k := kf q
    obtain ⟨locs, X, eT, N, hx, hby, hml, hZ, hown, hnm, hret, hlk, hn⟩ := H
    subst hp'
    exact oG.go (fun t hr => XS.ifNo X.here hx rfl (hb hby hd) rfl (XT.i0_lt_f q) hr) k
theorem o_ifl_lt (H : oH p l e R s m args below meth c bc ml y rt Z n0 T h cells slots) {o : Int} {x z : Int64} (hd : decode bc pc = .ok (.ifCond .lt o, 3)) (ho : 0 ≤ (pc : Int) + o) (hp : ((pc : Int) + o).toNat = pt) (hp' : pc + 3 = pc') (kt : x < z → oG p e below s n0 kc ks Q (T.setTop (mkF m pt L S))) (kf : ¬ x < z → oG p e below s n0 kc ks Q (T.setTop (mkF m pc' L S))) : oG p e below s n0 kc ks Q (T.setTop (mkF m pc L (.int (XT.cmpL x z) :: S))) := by
  by_cases q : x < z
  · have k := kt q
    obtain ⟨locs, X, eT, N, hx, hby, hml, hZ, hown, hnm, hret, hlk, hn⟩ := H
    exact oG.go (fun t hr => XS.ifYes X.here hx rfl rfl (hb hby hd) rfl (XT.ll_lt_t q) ho hp hr) k
  · have k := kf q
    obtain ⟨locs, X, eT, N, hx, hby, hml, hZ, hown, hnm, hret, hlk, hn⟩ := H
    subst hp'
    exact oG.go (fun t hr => XS.ifNo X.here hx rfl (hb hby hd) rfl (XT.ll_lt_f q) hr) k
theorem o_icmp_ge (H : oH p l e R s m args below meth c bc ml y rt Z n0 T h cells slots) {o : Int} {x z : Int32} (hd : decode bc pc = .ok (.if_icmp .ge o, 3)) (ho : 0 ≤ (pc : Int) + o) (hp : ((pc : Int) + o).toNat = pt) (hp' : pc + 3 = pc') (kt : ¬ x < z → oG p e below s n0 kc ks Q (T.setTop (mkF m pt L S))) (kf : x < z → oG p e below s n0 kc ks Q (T.setTop (mkF m pc' L S))) : oG p e below s n0 kc ks Q (T.setTop (mkF m pc L (.int z :: .int x :: S))) := by
  by_cases q : ¬ x < z
  · have k := kt q
    obtain ⟨locs, X, eT, N, hx, hby, hml, hZ, hown, hnm, hret, hlk, hn⟩ := H
    exact oG.go (fun t hr => XS.icmpYes X.here hx rfl rfl (hb hby hd) rfl (XT.ii_ge_t q) ho hp hr) k
  · have k := kf (Classical.not_not.mp q)
    obtain ⟨locs, X, eT, N, hx, hby, hml, hZ, hown, hnm, hret, hlk, hn⟩ := H
    subst hp'
    exact oG.go (fun t hr => XS.icmpNo X.here hx rfl (hb hby hd) rfl (XT.ii_ge_f (Classical.not_not.mp q)) hr) k
theorem o_if_ge (H : oH p l e R s m args below meth c bc ml y rt Z n0 T h cells slots) {o : Int} {x : Int32} (hd : decode bc pc = .ok (.ifCond .ge o, 3)) (ho : 0 ≤ (pc : Int) + o) (hp : ((pc : Int) + o).toNat = pt) (hp' : pc + 3 = pc') (kt : ¬ x < 0 → oG p e below s n0 kc ks Q (T.setTop (mkF m pt L S))) (kf : x < 0 → oG p e below s n0 kc ks Q (T.setTop (mkF m pc' L S))) : oG p e below s n0 kc ks Q (T.setTop (mkF m pc L (.int x :: S))) := by
  by_cases q : ¬ x < 0
  · have k := kt q
    obtain ⟨locs, X, eT, N, hx, hby, hml, hZ, hown, hnm, hret, hlk, hn⟩ := H
    exact oG.go (fun t hr => XS.ifYes X.here hx rfl rfl (hb hby hd) rfl (XT.i0_ge_t q) ho hp hr) k
  · have k := kf (Classical.not_not.mp q)
    obtain ⟨locs, X, eT, N, hx, hby, hml, hZ, hown, hnm, hret, hlk, hn⟩ := H
    subst hp'
    exact oG.go (fun t hr => XS.ifNo X.here hx rfl (hb hby hd) rfl (XT.i0_ge_f (Classical.not_not.mp q)) hr) k
theorem o_ifl_ge (H : oH p l e R s m args below meth c bc ml y rt Z n0 T h cells slots) {o : Int} {x z : Int64} (hd : decode bc pc = .ok (.ifCond .ge o, 3)) (ho : 0 ≤ (pc : Int) + o) (hp : ((pc : Int) + o).toNat = pt) (hp' : pc + 3 = pc') (kt : ¬ x < z → oG p e below s n0 kc ks Q (T.setTop (mkF m pt L S))) (kf : x < z → oG p e below s n0 kc ks Q (T.setTop (mkF m pc' L S))) : oG p e below s n0 kc ks Q (T.setTop (mkF m pc L (.int (XT.cmpL x z) :: S))) := by
  by_cases q : ¬ x < z
  · have k := kt q
    obtain ⟨locs, X, eT, N, hx, hby, hml, hZ, hown, hnm, hret, hlk, hn⟩ := H
    exact oG.go (fun t hr => XS.ifYes X.here hx rfl rfl (hb hby hd) rfl (XT.ll_ge_t q) ho hp hr) k
  · have k := kf (Classical.not_not.mp q)
    obtain ⟨locs, X, eT, N, hx, hby, hml, hZ, hown, hnm, hret, hlk, hn⟩ := H
    subst hp'
    exact oG.go (fun t hr => XS.ifNo X.here hx rfl (hb hby hd) rfl (XT.ll_ge_f (Classical.not_not.mp q)) hr) k
theorem o_icmp_gt (H : oH p l e R s m args below meth c bc ml y rt Z n0 T h cells slots) {o : Int} {x z : Int32} (hd : decode bc pc = .ok (.if_icmp .gt o, 3)) (ho : 0 ≤ (pc : Int) + o) (hp : ((pc : Int) + o).toNat = pt) (hp' : pc + 3 = pc') (kt : z < x → oG p e below s n0 kc ks Q (T.setTop (mkF m pt L S))) (kf : ¬ z < x → oG p e below s n0 kc ks Q (T.setTop (mkF m pc' L S))) : oG p e below s n0 kc ks Q (T.setTop (mkF m pc L (.int z :: .int x :: S))) := by
  by_cases q : z < x
  · have k := kt q
    obtain ⟨locs, X, eT, N, hx, hby, hml, hZ, hown, hnm, hret, hlk, hn⟩ := H
    exact oG.go (fun t hr => XS.icmpYes X.here hx rfl rfl (hb hby hd) rfl (XT.ii_gt_t q) ho hp hr) k
  · have k := kf q
    obtain ⟨locs, X, eT, N, hx, hby, hml, hZ, hown, hnm, hret, hlk, hn⟩ := H
    subst hp'
    exact oG.go (fun t hr => XS.icmpNo X.here hx rfl (hb hby hd) rfl (XT.ii_gt_f q) hr) k
theorem o_if_gt (H : oH p l e R s m args below meth c bc ml y rt Z n0 T h cells slots) {o : Int} {x : Int32} (hd : decode bc pc = .ok (.ifCond .gt o, 3)) (ho : 0 ≤ (pc : Int) + o) (hp : ((pc : Int) + o).toNat = pt) (hp' : pc + 3 = pc') (kt : 0 < x → oG p e below s n0 kc ks Q (T.setTop (mkF m pt L S))) (kf : ¬ 0 < x → oG p e below s n0 kc ks Q (T.setTop (mkF m pc' L S))) : oG p e below s n0 kc ks Q (T.setTop (mkF m pc L (.int x :: S))) := by
  by_cases q : 0 < x
  · have k := kt q
    obtain ⟨locs, X, eT, N, hx, hby, hml, hZ, hown, hnm, hret, hlk, hn⟩ := H
    exact oG.go (fun t hr => XS.ifYes X.here hx rfl rfl (hb hby hd) rfl (XT.i0_gt_t q) ho hp hr) k
  · have k := kf q
    obtain ⟨locs, X, eT, N, hx, hby, hml, hZ, hown, hnm, hret, hlk, hn⟩ := H
    subst hp'
    exact oG.go (fun t hr => XS.ifNo X.here hx rfl (hb hby hd) rfl (XT.i0_gt_f q) hr) k
theorem o_ifl_gt (H : oH p l e R s m args below meth c bc ml y rt Z n0 T h cells slots) {o : Int} {x z : Int64} (hd : decode bc pc = .ok (.ifCond .gt o, 3)) (ho : 0 ≤ (pc : Int) + o) (hp : ((pc : Int) + o).toNat = pt) (hp' : pc + 3 = pc') (kt : z < x → oG p e below s n0 kc ks Q (T.setTop (mkF m pt L S))) (kf : ¬ z < x → oG p e below s n0 kc ks Q (T.setTop (mkF m pc' L S))) : oG p e below s n0 kc ks Q (T.setTop (mkF m pc L (.int (XT.cmpL x z) :: S))) := by
  by_cases q : z < x
  · have k := kt q
    obtain ⟨locs, X, eT, N, hx, hby, hml, hZ, hown, hnm, hret, hlk, hn⟩ := H
    exact oG.go (fun t hr => XS.ifYes X.here hx rfl rfl (hb hby hd) rfl (XT.ll_gt_t q) ho hp hr) k
  · have k := kf q
    obtain ⟨locs, X, eT, N, hx, hby, hml, hZ, hown, hnm, hret, hlk, hn⟩ := H
    subst hp'
    exact oG.go (fun t hr => XS.ifNo X.here hx rfl (hb hby hd) rfl (XT.ll_gt_f q) hr) k
theorem o_icmp_le (H : oH p l e R s m args below meth c bc ml y rt Z n0 T h cells slots) {o : Int} {x z : Int32} (hd : decode bc pc = .ok (.if_icmp .le o, 3)) (ho : 0 ≤ (pc : Int) + o) (hp : ((pc : Int) + o).toNat = pt) (hp' : pc + 3 = pc') (kt : ¬ z < x → oG p e below s n0 kc ks Q (T.setTop (mkF m pt L S))) (kf : z < x → oG p e below s n0 kc ks Q (T.setTop (mkF m pc' L S))) : oG p e below s n0 kc ks Q (T.setTop (mkF m pc L (.int z :: .int x :: S))) := by
  by_cases q : ¬ z < x
  · have k := kt q
    obtain ⟨locs, X, eT, N, hx, hby, hml, hZ, hown, hnm, hret, hlk, hn⟩ := H
    exact oG.go (fun t hr => XS.icmpYes X.here hx rfl rfl (hb hby hd) rfl (XT.ii_le_t q) ho hp hr) k
  · have k := kf (Classical.not_not.mp q)
    obtain ⟨locs, X, eT, N, hx, hby, hml, hZ, hown, hnm, hret, hlk, hn⟩ := H
    subst hp'
    exact oG.go (fun t hr => XS.icmpNo X.here hx rfl (hb hby hd) rfl (XT.ii_le_f (Classical.not_not.mp q)) hr) k
theorem o_if_le (H : oH p l e R s m args below meth c bc ml y rt Z n0 T h cells slots) {o : Int} {x : Int32} (hd : decode bc pc = .ok (.ifCond .le o, 3)) (ho : 0 ≤ (pc : Int) + o) (hp : ((pc : Int) + o).toNat = pt) (hp' : pc + 3 = pc') (kt : ¬ 0 < x → oG p e below s n0 kc ks Q (T.setTop (mkF m pt L S))) (kf : 0 < x → oG p e below s n0 kc ks Q (T.setTop (mkF m pc' L S))) : oG p e below s n0 kc ks Q (T.setTop (mkF m pc L (.int x :: S))) := by
  by_cases q : ¬ 0 < x
  · have k := kt q
    obtain ⟨locs, X, eT, N, hx, hby, hml, hZ, hown, hnm, hret, hlk, hn⟩ := H
    exact oG.go (fun t hr => XS.ifYes X.here hx rfl rfl (hb hby hd) rfl (XT.i0_le_t q) ho hp hr) k
  · have k := kf (Classical.not_not.mp q)
    obtain ⟨locs, X, eT, N, hx, hby, hml, hZ, hown, hnm, hret, hlk, hn⟩ := H
    subst hp'
    exact oG.go (fun t hr => XS.ifNo X.here hx rfl (hb hby hd) rfl (XT.i0_le_f (Classical.not_not.mp q)) hr) k
theorem o_ifl_le (H : oH p l e R s m args below meth c bc ml y rt Z n0 T h cells slots) {o : Int} {x z : Int64} (hd : decode bc pc = .ok (.ifCond .le o, 3)) (ho : 0 ≤ (pc : Int) + o) (hp : ((pc : Int) + o).toNat = pt) (hp' : pc + 3 = pc') (kt : ¬ z < x → oG p e below s n0 kc ks Q (T.setTop (mkF m pt L S))) (kf : z < x → oG p e below s n0 kc ks Q (T.setTop (mkF m pc' L S))) : oG p e below s n0 kc ks Q (T.setTop (mkF m pc L (.int (XT.cmpL x z) :: S))) := by
  by_cases q : ¬ z < x
  · have k := kt q
    obtain ⟨locs, X, eT, N, hx, hby, hml, hZ, hown, hnm, hret, hlk, hn⟩ := H
    exact oG.go (fun t hr => XS.ifYes X.here hx rfl rfl (hb hby hd) rfl (XT.ll_le_t q) ho hp hr) k
  · have k := kf (Classical.not_not.mp q)
    obtain ⟨locs, X, eT, N, hx, hby, hml, hZ, hown, hnm, hret, hlk, hn⟩ := H
    subst hp'
    exact oG.go (fun t hr => XS.ifNo X.here hx rfl (hb hby hd) rfl (XT.ll_le_f (Classical.not_not.mp q)) hr) k
theorem o_icmp_t (H : oH p l e R s m args below meth c bc ml y rt Z n0 T h cells slots) {o : Int} {cd : ClassFile.Cond} {x z : Int32} (hd : decode bc pc = .ok (.if_icmp cd o, 3)) (hc : if_icmp.holds cd x z = true) (ho : 0 ≤ (pc : Int) + o) (hp : ((pc : Int) + o).toNat = pt) (k : oG p e below s n0 kc ks Q (T.setTop (mkF m pt L S))) : oG p e below s n0 kc ks Q (T.setTop (mkF m pc L (.int z :: .int x :: S))) := by
  obtain ⟨locs, X, eT, N, hx, hby, hml, hZ, hown, hnm, hret, hlk, hn⟩ := H
  exact oG.go (fun t hr => XS.icmpYes X.here hx rfl rfl (hb hby hd) rfl hc ho hp hr) k
theorem o_icmp_f (H : oH p l e R s m args below meth c bc ml y rt Z n0 T h cells slots) {o : Int} {cd : ClassFile.Cond} {x z : Int32} (hd : decode bc pc = .ok (.if_icmp cd o, 3)) (hc : if_icmp.holds cd x z = false) (hp : pc + 3 = pc') (k : oG p e below s n0 kc ks Q (T.setTop (mkF m pc' L S))) : oG p e below s n0 kc ks Q (T.setTop (mkF m pc L (.int z :: .int x :: S))) := by
  obtain ⟨locs, X, eT, N, hx, hby, hml, hZ, hown, hnm, hret, hlk, hn⟩ := H
  subst hp
  exact oG.go (fun t hr => XS.icmpNo X.here hx rfl (hb hby hd) rfl hc hr) k
theorem o_if_t (H : oH p l e R s m args below meth c bc ml y rt Z n0 T h cells slots) {o : Int} {cd : ClassFile.Cond} {x : Int32} (hd : decode bc pc = .ok (.ifCond cd o, 3)) (hc : ifCond.holds cd x = true) (ho : 0 ≤ (pc : Int) + o) (hp : ((pc : Int) + o).toNat = pt) (k : oG p e below s n0 kc ks Q (T.setTop (mkF m pt L S))) : oG p e below s n0 kc ks Q (T.setTop (mkF m pc L (.int x :: S))) := by
  obtain ⟨locs, X, eT, N, hx, hby, hml, hZ, hown, hnm, hret, hlk, hn⟩ := H
  exact oG.go (fun t hr => XS.ifYes X.here hx rfl rfl (hb hby hd) rfl hc ho hp hr) k
theorem o_if_f (H : oH p l e R s m args below meth c bc ml y rt Z n0 T h cells slots) {o : Int} {cd : ClassFile.Cond} {x : Int32} (hd : decode bc pc = .ok (.ifCond cd o, 3)) (hc : ifCond.holds cd x = false) (hp : pc + 3 = pc') (k : oG p e below s n0 kc ks Q (T.setTop (mkF m pc' L S))) : oG p e below s n0 kc ks Q (T.setTop (mkF m pc L (.int x :: S))) := by
  obtain ⟨locs, X, eT, N, hx, hby, hml, hZ, hown, hnm, hret, hlk, hn⟩ := H
  subst hp
  exact oG.go (fun t hr => XS.ifNo X.here hx rfl (hb hby hd) rfl hc hr) k
theorem o_ifnull_t (H : oH p l e R s m args below meth c bc ml y rt Z n0 T h cells slots) {o : Int} (hd : decode bc pc = .ok (.ifnull o, 3)) (ho : 0 ≤ (pc : Int) + o) (hp : ((pc : Int) + o).toNat = pt) (k : oG p e below s n0 kc ks Q (T.setTop (mkF m pt L S))) : oG p e below s n0 kc ks Q (T.setTop (mkF m pc L (.null :: S))) := by
  obtain ⟨locs, X, eT, N, hx, hby, hml, hZ, hown, hnm, hret, hlk, hn⟩ := H
  exact oG.go (fun t hr => XS.ifnullYes X.here hx rfl rfl (hb hby hd) rfl ho hp hr) k
theorem o_ifnull_f (H : oH p l e R s m args below meth c bc ml y rt Z n0 T h cells slots) {o : Int} {a : Addr} (hd : decode bc pc = .ok (.ifnull o, 3)) (hp : pc + 3 = pc') (k : oG p e below s n0 kc ks Q (T.setTop (mkF m pc' L S))) : oG p e below s n0 kc ks Q (T.setTop (mkF m pc L (.ref a :: S))) := by
  obtain ⟨locs, X, eT, N, hx, hby, hml, hZ, hown, hnm, hret, hlk, hn⟩ := H
  subst hp
  exact oG.go (fun t hr => XS.ifnullNo X.here hx rfl (hb hby hd) rfl hr) k
theorem o_ifnonnull_t (H : oH p l e R s m args below meth c bc ml y rt Z n0 T h cells slots) {o : Int} {a : Addr} (hd : decode bc pc = .ok (.ifnonnull o, 3)) (ho : 0 ≤ (pc : Int) + o) (hp : ((pc : Int) + o).toNat = pt) (k : oG p e below s n0 kc ks Q (T.setTop (mkF m pt L S))) : oG p e below s n0 kc ks Q (T.setTop (mkF m pc L (.ref a :: S))) := by
  obtain ⟨locs, X, eT, N, hx, hby, hml, hZ, hown, hnm, hret, hlk, hn⟩ := H
  exact oG.go (fun t hr => XT.ifnonnullYes X.here hx rfl rfl (hb hby hd) rfl ho hp hr) k
theorem o_ifnonnull_f (H : oH p l e R s m args below meth c bc ml y rt Z n0 T h cells slots) {o : Int} (hd : decode bc pc = .ok (.ifnonnull o, 3)) (hp : pc + 3 = pc') (k : oG p e below s n0 kc ks Q (T.setTop (mkF m pc' L S))) : oG p e below s n0 kc ks Q (T.setTop (mkF m pc L (.null :: S))) := by
  obtain ⟨locs, X, eT, N, hx, hby, hml, hZ, hown, hnm, hret, hlk, hn⟩ := H
  subst hp
  exact oG.go (fun t hr => XT.ifnonnullNo X.here hx rfl (hb hby hd) rfl hr) k
theorem o_acmp_t (H : oH p l e R s m args below meth c bc ml y rt Z n0 T h cells slots) {o : Int} {cd : ClassFile.ACond} {u w : Value} (hd : decode bc pc = .ok (.if_acmp cd o, 3)) (hu : u.isRef = true) (hw : w.isRef = true) (hc : XT.acmp cd u w = true) (ho : 0 ≤ (pc : Int) + o) (hp : ((pc : Int) + o).toNat = pt) (k : oG p e below s n0 kc ks Q (T.setTop (mkF m pt L S))) : oG p e below s n0 kc ks Q (T.setTop (mkF m pc L (w :: u :: S))) := by
  obtain ⟨locs, X, eT, N, hx, hby, hml, hZ, hown, hnm, hret, hlk, hn⟩ := H
  exact oG.go (fun t hr => XT.acmpYes X.here hx rfl rfl (hb hby hd) rfl hu hw hc ho hp hr) k
theorem o_acmp_f (H : oH p l e R s m args below meth c bc ml y rt Z n0 T h cells slots) {o : Int} {cd : ClassFile.ACond} {u w : Value} (hd : decode bc pc = .ok (.if_acmp cd o, 3)) (hu : u.isRef = true) (hw : w.isRef = true) (hc : XT.acmp cd u w = false) (hp : pc + 3 = pc') (k : oG p e below s n0 kc ks Q (T.setTop (mkF m pc' L S))) : oG p e below s n0 kc ks Q (T.setTop (mkF m pc L (w :: u :: S))) := by
  obtain ⟨locs, X, eT, N, hx, hby, hml, hZ, hown, hnm, hret, hlk, hn⟩ := H
  subst hp
  exact oG.go (fun t hr => XT.acmpNo X.here hx rfl (hb hby hd) rfl hu hw hc hr) k
theorem o_ldcI (H : oH p l e R s m args below meth c bc ml y rt Z n0 T h cells slots) {i : Nat} (v : Int32) (w : (Jvm.Cond.constant y.cls i v).before a0 Z = true) (hd : decode bc pc = .ok (.ldc i, 2)) (hp : pc + 2 = pc') (k : oG p e below s n0 kc ks Q (T.setTop (mkF m pc' L (.int v :: S)))) : oG p e below s n0 kc ks Q (T.setTop (mkF m pc L S)) := by
  obtain ⟨locs, X, eT, N, hx, hby, hml, hZ, hown, hnm, hret, hlk, hn⟩ := H
  subst hp
  exact oG.go (X.ldcInt hx hown (mvT hZ w) (g := mkF m pc L S) rfl (hb hby hd)) k
theorem o_ldcJ (H : oH p l e R s m args below meth c bc ml y rt Z n0 T h cells slots) {i : Nat} (v : Int64) (w : (Jvm.Cond.constantLong y.cls i v).before a0 Z = true) (hd : decode bc pc = .ok (.ldc2_w i, 3)) (hp : pc + 3 = pc') (k : oG p e below s n0 kc ks Q (T.setTop (mkF m pc' L (.long v :: S)))) : oG p e below s n0 kc ks Q (T.setTop (mkF m pc L S)) := by
  obtain ⟨locs, X, eT, N, hx, hby, hml, hZ, hown, hnm, hret, hlk, hn⟩ := H
  subst hp
  exact oG.go (X.ldc2Long hx hown (mvT hZ w) (g := mkF m pc L S) rfl (hb hby hd)) k
theorem o_ireturn (H : oH p l e R s m args below meth c bc ml y rt Z n0 T h cells slots) {z : Int32} (hrt : rt = some .int) (hd : decode bc pc = .ok (.ireturn, 1)) (hk : cells ≤ kc) (hs : slots ≤ ks) (q : Q (some (.int z)) h) : oG p e below s n0 kc ks Q (T.setTop (mkF m pc L (.int z :: S))) := by
  obtain ⟨locs, X, eT, N, hx, hby, hml, hZ, hown, hnm, hret, hlk, hn⟩ := H
  obtain ⟨fs, hr, hrun, hended, hW, hsame⟩ := X.leave (v := (some (.int z))) (fun hh => by first | rfl | (rw [hret, hrt] at hh; cases hh)) hlk
  refine ⟨_, _, retI X hx (hret.trans hrt) (hb hby hd) hr, hrun, hended, _, _, rfl, ⟨?_, N⟩, ⟨_, rfl⟩, hW, hsame.mono hk hs⟩
  show Q _ T.heap
  rw [eT]; exact q
theorem o_nreturn (H : oH p l e R s m args below meth c bc ml y rt Z n0 T h cells slots) {z : Int32} (t : FieldType) (hrt : rt = some t) (ht : t = .boolean ∨ t = .byte ∨ t = .char ∨ t = .short) (hd : decode bc pc = .ok (.ireturn, 1)) (hk : cells ≤ kc) (hs : slots ≤ ks) (q : Q (some (.int (nar t z))) h) : oG p e below s n0 kc ks Q (T.setTop (mkF m pc L (.int z :: S))) := by
  obtain ⟨locs, X, eT, N, hx, hby, hml, hZ, hown, hnm, hret, hlk, hn⟩ := H
  obtain ⟨fs, hr, hrun, hended, hW, hsame⟩ := X.leave (v := (some (.int (nar t z)))) (fun hh => by first | rfl | (rw [hret, hrt] at hh; cases hh)) hlk
  refine ⟨_, _, retN X hx (hret.trans hrt) ht (hb hby hd) hr, hrun, hended, _, _, rfl, ⟨?_, N⟩, ⟨_, rfl⟩, hW, hsame.mono hk hs⟩
  show Q _ T.heap
  rw [eT]; exact q
theorem o_lreturn (H : oH p l e R s m args below meth c bc ml y rt Z n0 T h cells slots) {z : Int64} (hrt : rt = some .long) (hd : decode bc pc = .ok (.lreturn, 1)) (hk : cells ≤ kc) (hs : slots ≤ ks) (q : Q (some (.long z)) h) : oG p e below s n0 kc ks Q (T.setTop (mkF m pc L (.long z :: S))) := by
  obtain ⟨locs, X, eT, N, hx, hby, hml, hZ, hown, hnm, hret, hlk, hn⟩ := H
  obtain ⟨fs, hr, hrun, hended, hW, hsame⟩ := X.leave (v := (some (.long z))) (fun hh => by first | rfl | (rw [hret, hrt] at hh; cases hh)) hlk
  refine ⟨_, _, retOut X hx (w := .long z) (i := .lreturn) (hret.trans hrt) rfl (Or.inr (Or.inl ⟨rfl, rfl, z, rfl⟩)) (hb hby hd) hr, hrun, hended, _, _, rfl, ⟨?_, N⟩, ⟨_, rfl⟩, hW, hsame.mono hk hs⟩
  show Q _ T.heap
  rw [eT]; exact q
theorem o_areturn (H : oH p l e R s m args below meth c bc ml y rt Z n0 T h cells slots) {v : Value} {t : FieldType} (hrt : rt = some t) (ht : t.isReference = true) (hv : v.isRef = true) (hna : narrow t v = v) (hd : decode bc pc = .ok (.areturn, 1)) (hk : cells ≤ kc) (hs : slots ≤ ks) (q : Q (some v) h) : oG p e below s n0 kc ks Q (T.setTop (mkF m pc L (v :: S))) := by
  obtain ⟨locs, X, eT, N, hx, hby, hml, hZ, hown, hnm, hret, hlk, hn⟩ := H
  obtain ⟨fs, hr, hrun, hended, hW, hsame⟩ := X.leave (v := (some v)) (fun hh => by first | rfl | (rw [hret, hrt] at hh; cases hh)) hlk
  refine ⟨_, _, retOut X hx (w := v) (i := .areturn) (hret.trans hrt) hna (Or.inr (Or.inr (Or.inr (Or.inr ⟨rfl, ht, hv⟩)))) (hb hby hd) hr, hrun, hended, _, _, rfl, ⟨?_, N⟩, ⟨_, rfl⟩, hW, hsame.mono hk hs⟩
  show Q _ T.heap
  rw [eT]; exact q
theorem o_return (H : oH p l e R s m args below meth c bc ml y rt Z n0 T h cells slots)  (hrt : rt = none) (hd : decode bc pc = .ok (.return_, 1)) (hk : cells ≤ kc) (hs : slots ≤ ks) (q : Q none h) : oG p e below s n0 kc ks Q (T.setTop (mkF m pc L [])) := by
  obtain ⟨locs, X, eT, N, hx, hby, hml, hZ, hown, hnm, hret, hlk, hn⟩ := H
  obtain ⟨fs, hr, hrun, hended, hW, hsame⟩ := X.leave (v := none) (fun hh => by first | rfl | (rw [hret, hrt] at hh; cases hh)) hlk
  refine ⟨_, _, X.returnOut hx (hret.trans hrt) (hb hby hd) hr, hrun, hended, _, _, rfl, ⟨?_, N⟩, ⟨_, rfl⟩, hW, hsame.mono hk hs⟩
  show Q _ T.heap
  rw [eT]; exact q
theorem o_new (H : oH p l e R s m args below meth c bc ml y rt Z n0 T h cells slots) {i nn : Nat} {C : String} (w : (Jvm.Cond.classLink y.cls i C).before a0 Z = true) (wi : (Jvm.Cond.instantiable C nn).before a0 Z = true) (wz : (Jvm.Cond.initialized C).before a0 Z = true) (hd : decode bc pc = .ok (.new i, 3)) (hp : pc + 3 = pc') (hc : cells + 1 ≤ R.cells) (hl : slots + nn ≤ R.slots)
    (k : ∀ (T' : State) (h' : Heap) (a : Addr), a = h.size → oH p l e R s m args below meth c bc ml y rt Z n0 T' h' (cells + 1) (slots + nn) → Ext h h' → Exa Z h' a C → (∀ {O nm d : String} {ty : FieldType}, Laid Z a0 C O nm d → parseFieldDescriptor d = some ty → Fld Z h' a O nm d (defaultValue ty)) → oG p e below s n0 kc ks Q (T'.setTop (mkF m pc' L (.ref a :: S)))) : oG p e below s n0 kc ks Q (T.setTop (mkF m pc L S)) := by
  obtain ⟨locs, X, eT, N, hx, hby, hml, hZ, hown, hnm, hret, hlk, hn⟩ := H
  subst hp
  obtain ⟨T', h', X', e', E, A, D, -, st⟩ := newO X hx hZ hown w wi wz eT (g := mkF m pc L S) rfl (hb hby hd) hc hl
  exact oG.go st (k T' h' _ rfl ⟨locs, X', e', N, hx, hby, hml, hZ, hown, hnm, hret, hlk, hn⟩ E A (fun La ht => D La ht))
theorem o_initO (H : oH p l e R s m args below meth c bc ml y rt Z n0 T h cells slots) {i : Nat} {a : Addr} (w1 : (Jvm.Cond.methodLink y.cls i Lib.objectInit).before a0 Z = true) (w2 : (Jvm.Cond.instanceMethod Lib.objectInit).before a0 Z = true) (w3 : (Jvm.Cond.code Lib.objectInit ⟨#[0xb1]⟩ 1 none).before a0 Z = true) (hd : decode bc pc = .ok (.invokespecial i, 3)) (hp : pc + 3 = pc') (hsz : L.size = ml) (hf : 1 ≤ R.frames) (hlo : (S.map fun v => v.category).sum + 12 ≤ R.locals)
    (k : ∀ (T' : State), oH p l e R s m args below meth c bc ml y rt Z n0 T' h cells slots → oG p e below s n0 kc ks Q (T'.setTop (mkF m pc' L S))) : oG p e below s n0 kc ks Q (T.setTop (mkF m pc L (.ref a :: S))) := by
  obtain ⟨locs, X, eT, N, hx, hby, hml, hZ, hown, hnm, hret, hlk, hn⟩ := H
  subst hp
  obtain ⟨T', X', e', st⟩ := initO X hx hZ hown w1 w2 w3 eT (g := mkF m pc L (.ref a :: S)) rfl (by rw [hml]; exact hsz) rfl (hb hby hd) hf (W := (S.map fun v => v.category).sum) (by show 2 * 0 + _ ≤ _; omega) hlo
  exact oG.go st (k T' ⟨locs, X', e', N, hx, hby, hml, hZ, hown, hnm, hret, hlk, hn⟩)
theorem o_getF (H : oH p l e R s m args below meth c bc ml y rt Z n0 T h cells slots) {i : Nat} {a : Addr} {C f d host : String} {v : Value} (w : (Jvm.Cond.fieldLink y.cls i C f d).before a0 Z = true ∨ (Jvm.Cond.fieldLinkNest y.cls i C f d host).before a0 Z = true) (F : Fld Z h a C f d v) (hd : decode bc pc = .ok (.getfield i, 3)) (hp : pc + 3 = pc')
    (k : ∀ (T' : State), oH p l e R s m args below meth c bc ml y rt Z n0 T' h cells slots → oG p e below s n0 kc ks Q (T'.setTop (mkF m pc' L (v :: S)))) : oG p e below s n0 kc ks Q (T.setTop (mkF m pc L (.ref a :: S))) := by
  obtain ⟨locs, X, eT, N, hx, hby, hml, hZ, hown, hnm, hret, hlk, hn⟩ := H
  subst hp
  obtain ⟨T', X', e', st⟩ := getF X hx hZ hown (host := host) w Via.refl eT F (g := mkF m pc L (.ref a :: S)) rfl rfl (hb hby hd)
  exact oG.go st (k T' ⟨locs, X', e', N, hx, hby, hml, hZ, hown, hnm, hret, hlk, hn⟩)
theorem o_putF (H : oH p l e R s m args below meth c bc ml y rt Z n0 T h cells slots) {i kk : Nat} {a : Addr} {C K f d host : String} {v old : Value} {ty : FieldType} (w : (Jvm.Cond.fieldLink y.cls i C f d).before a0 Z = true ∨ (Jvm.Cond.fieldLinkNest y.cls i C f d host).before a0 Z = true) (F : Fld Z h a C f d old) (E : Exa Z h a K) (wl : (Jvm.Cond.lays K C f d).before a0 Z = true ∨ ((Jvm.Cond.laysFinal K C f d).before a0 Z = true ∧ y.cls = C ∧ y.name = "<init>")) (wi : (Jvm.Cond.instantiable K kk).before a0 Z = true) (hty : parseFieldDescriptor d = some ty) (hna : narrow ty v = v) (hft : fits ty v = true) (ha : n0 ≤ a) (hd : decode bc pc = .ok (.putfield i, 3)) (hp : pc + 3 = pc')
    (k : ∀ (T' : State) (h' : Heap), oH p l e R s m args below meth c bc ml y rt Z n0 T' h' cells slots → Wr h h' a (Jvm.RoadKit.slotOf Z C f d) v → oG p e below s n0 kc ks Q (T'.setTop (mkF m pc' L S))) : oG p e below s n0 kc ks Q (T.setTop (mkF m pc L (v :: .ref a :: S))) := by
  obtain ⟨locs, X, eT, N, hx, hby, hml, hZ, hown, hnm, hret, hlk, hn⟩ := H
  subst hp
  obtain ⟨T', h', X', e', W, st⟩ := putF X hx hZ hown (host := host) w Via.refl eT F E (wl.imp id fun q => ⟨q.1, q.2.1, hnm.trans q.2.2⟩) wi hty hna hft (g := mkF m pc L (v :: .ref a :: S)) rfl rfl (hb hby hd)
  exact oG.go st (k T' h' ⟨_, X', e', Fr.snoc X' N ha, hx, hby, hml, hZ, hown, hnm, hret, hlk, hn⟩ W)
theorem o_putFN (H : oH p l e R s m args below meth c bc ml y rt Z n0 T h cells slots) {i kk : Nat} {a : Addr} {C K f d : String} {v v' old : Value} {ty : FieldType} (w : (Jvm.Cond.fieldLink y.cls i C f d).before a0 Z = true) (F : Fld Z h a C f d old) (E : Exa Z h a K) (wl : (Jvm.Cond.lays K C f d).before a0 Z = true ∨ ((Jvm.Cond.laysFinal K C f d).before a0 Z = true ∧ y.cls = C ∧ y.name = "<init>")) (wi : (Jvm.Cond.instantiable K kk).before a0 Z = true) (hty : parseFieldDescriptor d = some ty) (hna : narrow ty v = v') (hft : fits ty v' = true) (ha : n0 ≤ a) (hd : decode bc pc = .ok (.putfield i, 3)) (hp : pc + 3 = pc')
    (k : ∀ (T' : State) (h' : Heap), oH p l e R s m args below meth c bc ml y rt Z n0 T' h' cells slots → Wr h h' a (Jvm.RoadKit.slotOf Z C f d) v' → oG p e below s n0 kc ks Q (T'.setTop (mkF m pc' L S))) : oG p e below s n0 kc ks Q (T.setTop (mkF m pc L (v :: .ref a :: S))) := by
  obtain ⟨locs, X, eT, N, hx, hby, hml, hZ, hown, hnm, hret, hlk, hn⟩ := H
  subst hp
  obtain ⟨T', h', X', e', W, st⟩ := putFN X hx hZ hown w Via.refl eT F E (wl.imp id fun q => ⟨q.1, q.2.1, hnm.trans q.2.2⟩) wi hty hna hft (g := mkF m pc L (v :: .ref a :: S)) rfl rfl (hb hby hd)
  exact oG.go st (k T' h' ⟨_, X', e', Fr.snoc X' N ha, hx, hby, hml, hZ, hown, hnm, hret, hlk, hn⟩ W)
theorem o_getS (H : oH p l e R s m args below meth c bc ml y rt Z n0 T h cells slots) {i : Nat} {C f d host : String} {v : Value} (w : (Jvm.Cond.fieldLink y.cls i C f d).before a0 Z = true ∨ (Jvm.Cond.fieldLinkNest y.cls i C f d host).before a0 Z = true) (F : Sta Z h C f d v) (hd : decode bc pc = .ok (.getstatic i, 3)) (hp : pc + 3 = pc')
    (k : ∀ (T' : State), oH p l e R s m args below meth c bc ml y rt Z n0 T' h cells slots → oG p e below s n0 kc ks Q (T'.setTop (mkF m pc' L (v :: S)))) : oG p e below s n0 kc ks Q (T.setTop (mkF m pc L S)) := by
  obtain ⟨locs, X, eT, N, hx, hby, hml, hZ, hown, hnm, hret, hlk, hn⟩ := H
  subst hp
  obtain ⟨T', X', e', st⟩ := getS2 X hx hZ hown (host := host) w Via.refl eT F (g := mkF m pc L S) rfl (hb hby hd)
  exact oG.go st (k T' ⟨locs, X', e', N, hx, hby, hml, hZ, hown, hnm, hret, hlk, hn⟩)
/-- an array, by the list of what it holds -/
def oA (ty : FieldType) (Z : State) (h : Heap) (a : Addr) (vs : List Value) : Prop := vs.length < 2 ^ 31 ∧ ∃ cl : Cell, Arr Z h a cl ty ∧ cl.slots = vs.toArray
theorem oA.ext {ty : FieldType} {h' : Heap} {a : Addr} {vs : List Value} (A : oA ty Z h a vs) (E : Ext h h') : oA ty Z h' a vs := by
  obtain ⟨q, cl, A, r⟩ := A; exact ⟨q, cl, A.ext E, r⟩
theorem oA.other {ty : FieldType} {h' : Heap} {a b : Addr} {sl : Nat} {v : Value} {vs : List Value} (A : oA ty Z h b vs) (W : Wr h h' a sl v) (ne : b ≠ a) : oA ty Z h' b vs := by
  obtain ⟨q, cl, A, r⟩ := A; exact ⟨q, cl, A.other W ne, r⟩
theorem oA.keep {ty : FieldType} {h' : Heap} {a : Addr} {ws : List Addr} {vs : List Value} (A : oA ty Z h a vs) (K : Keep h h' ws) (ne : a ∉ ws) : oA ty Z h' a vs := by
  obtain ⟨q, cl, A, r⟩ := A; exact ⟨q, cl, ⟨K.2.1 a cl A.1 ne, A.2⟩, r⟩
theorem oA.lt {ty : FieldType} {a : Addr} {vs : List Value} (A : oA ty Z h a vs) : a < h.size := by
  obtain ⟨q, cl, A, r⟩ := A; exact A.lt
theorem oA.same {ty : FieldType} {h' : Heap} {a : Addr} {j : Nat} {v : Value} {vs : List Value} (A : oA ty Z h a vs) (W : Wr h h' a j v) : oA ty Z h' a (vs.set j v) := by
  obtain ⟨q, cl, A, r⟩ := A
  refine ⟨by rw [List.length_set]; exact q, _, A.same W, ?_⟩
  show cl.slots.setIfInBounds j v = _
  rw [r, List.setIfInBounds_toArray]
theorem o_inb {cl : Cell} {vs : List Value} {j : Int32} {i : Nat} (r : cl.slots = vs.toArray) (h0 : j.toInt = (i : Int)) (h1 : i < vs.length) : ¬ (j < 0 ∨ cl.slots.size ≤ j.toNatClampNeg) := by
  have e0 : (0 : Int32).toInt = 0 := rfl
  have e1 : cl.slots.size = vs.length := by rw [r]; simp
  rw [Int32.lt_iff_toInt_lt, e0, e1]
  simp only [Int32.toNatClampNeg]; omega
theorem o_nat {j : Int32} {i : Nat} (h0 : j.toInt = (i : Int)) : j.toNatClampNeg = i := by
  simp only [Int32.toNatClampNeg]; omega
theorem o_elt {cl : Cell} {vs : List Value} {j : Int32} {i : Nat} {v : Value} (r : cl.slots = vs.toArray) (h0 : j.toInt = (i : Int)) (hv : vs[i]? = some v) : cl.slots[j.toNatClampNeg]? = some v := by
  rw [r, o_nat h0]; simpa using hv
theorem o_lt_of {vs : List Value} {i : Nat} {v : Value} (hv : vs[i]? = some v) : i < vs.length := (List.getElem?_eq_some_iff.mp hv).1
theorem o_newarr (H : oH p l e R s m args below meth c bc ml y rt Z n0 T h cells slots) {aty : ArrayType} {z : Int32} (cap n : Nat) (w : (Jvm.Cond.arrayClass (newarray.typeOf aty)).before a0 Z = true) (hz : z.toInt = (n : Int)) (hcap : n ≤ cap) (hb8 : cap * 8 ≤ 536870912) (hd : decode bc pc = .ok (.newarray aty, 2)) (hp : pc + 2 = pc') (hc : cells + 1 ≤ R.cells) (hl : slots + cap ≤ R.slots)
    (k : ∀ (T' : State) (h' : Heap) (a : Addr), a = h.size → oH p l e R s m args below meth c bc ml y rt Z n0 T' h' (cells + 1) (slots + cap) → Ext h h' → oA (newarray.typeOf aty) Z h' a (List.replicate n (defaultValue (newarray.typeOf aty))) → oG p e below s n0 kc ks Q (T'.setTop (mkF m pc' L (.ref a :: S)))) : oG p e below s n0 kc ks Q (T.setTop (mkF m pc L (.int z :: S))) := by
  obtain ⟨locs, X, eT, N, hx, hby, hml, hZ, hown, hnm, hret, hlk, hn⟩ := H
  subst hp
  have e0 : (0 : Int32).toInt = 0 := rfl
  obtain ⟨T', h', kk, X', e', E, A, st⟩ := newP X hx hZ w eT (g := mkF m pc L (.int z :: S)) rfl (hb hby hd) rfl (by rw [Int32.lt_iff_toInt_lt, e0]; omega) (cap := cap) (by simp only [Int32.toNatClampNeg]; omega) hb8 hc hl
  refine oG.go st (k T' h' _ rfl ⟨locs, X', e', N, hx, hby, hml, hZ, hown, hnm, hret, hlk, hn⟩ E ⟨?_, _, A, ?_⟩)
  · have := Int32.toInt_lt z
    rw [List.length_replicate]; omega
  · show Array.replicate z.toNatClampNeg _ = _
    rw [o_nat hz, ← List.toArray_replicate]
theorem o_iaload (H : oH p l e R s m args below meth c bc ml y rt Z n0 T h cells slots) {a : Addr} {j : Int32} {vs : List Value} (i : Nat) (v : Value) (A : oA .int Z h a vs) (h0 : j.toInt = (i : Int)) (hv : vs[i]? = some v) (hd : decode bc pc = .ok (.iaload, 1)) (hp : pc + 1 = pc') (k : oG p e below s n0 kc ks Q (T.setTop (mkF m pc' L (v :: S)))) : oG p e below s n0 kc ks Q (T.setTop (mkF m pc L (.int j :: .ref a :: S))) := by
  obtain ⟨locs, X, eT, N, hx, hby, hml, hZ, hown, hnm, hret, hlk, hn⟩ := H
  subst hp
  obtain ⟨-, cl, A, r⟩ := A
  exact oG.go (fun t hr => X.iaload hx (j := j) (v := v) (by rw [eT]; exact A.1) (State.isArrayOf_alike hZ.alike A.2.1) A.2.2 (o_inb r h0 (o_lt_of hv)) (o_elt r h0 hv) (g := mkF m pc L (.int j :: .ref a :: S)) rfl rfl (hb hby hd) t hr) k
theorem o_caload (H : oH p l e R s m args below meth c bc ml y rt Z n0 T h cells slots) {a : Addr} {j : Int32} {vs : List Value} (i : Nat) (v : Value) (A : oA .char Z h a vs) (h0 : j.toInt = (i : Int)) (hv : vs[i]? = some v) (hd : decode bc pc = .ok (.caload, 1)) (hp : pc + 1 = pc') (k : oG p e below s n0 kc ks Q (T.setTop (mkF m pc' L (v :: S)))) : oG p e below s n0 kc ks Q (T.setTop (mkF m pc L (.int j :: .ref a :: S))) := by
  obtain ⟨locs, X, eT, N, hx, hby, hml, hZ, hown, hnm, hret, hlk, hn⟩ := H
  subst hp
  obtain ⟨-, cl, A, r⟩ := A
  exact oG.go (fun t hr => X.caload hx (j := j) (v := v) (by rw [eT]; exact A.1) (State.isArrayOf_alike hZ.alike A.2.1) A.2.2 (o_inb r h0 (o_lt_of hv)) (o_elt r h0 hv) (g := mkF m pc L (.int j :: .ref a :: S)) rfl rfl (hb hby hd) t hr) k
theorem o_baload (H : oH p l e R s m args below meth c bc ml y rt Z n0 T h cells slots) {a : Addr} {j : Int32} {vs : List Value} (i : Nat) (v : Value) (A : oA .byte Z h a vs) (h0 : j.toInt = (i : Int)) (hv : vs[i]? = some v) (hd : decode bc pc = .ok (.baload, 1)) (hp : pc + 1 = pc') (k : oG p e below s n0 kc ks Q (T.setTop (mkF m pc' L (v :: S)))) : oG p e below s n0 kc ks Q (T.setTop (mkF m pc L (.int j :: .ref a :: S))) := by
  obtain ⟨locs, X, eT, N, hx, hby, hml, hZ, hown, hnm, hret, hlk, hn⟩ := H
  subst hp
  obtain ⟨-, cl, A, r⟩ := A
  exact oG.go (fun t hr => X.baloadBytes hx (j := j) (v := v) (by rw [eT]; exact A.1) (State.isArrayOf_alike hZ.alike A.2.1) A.2.2 (o_inb r h0 (o_lt_of hv)) (o_elt r h0 hv) (g := mkF m pc L (.int j :: .ref a :: S)) rfl rfl (hb hby hd) t hr) k
theorem o_laload (H : oH p l e R s m args below meth c bc ml y rt Z n0 T h cells slots) {a : Addr} {j : Int32} {vs : List Value} (i : Nat) (v : Value) (A : oA .long Z h a vs) (h0 : j.toInt = (i : Int)) (hv : vs[i]? = some v) (hd : decode bc pc = .ok (.laload, 1)) (hp : pc + 1 = pc') (k : oG p e below s n0 kc ks Q (T.setTop (mkF m pc' L (v :: S)))) : oG p e below s n0 kc ks Q (T.setTop (mkF m pc L (.int j :: .ref a :: S))) := by
  obtain ⟨locs, X, eT, N, hx, hby, hml, hZ, hown, hnm, hret, hlk, hn⟩ := H
  subst hp
  obtain ⟨-, cl, A, r⟩ := A
  exact oG.go (fun t hr => X.laload hx (j := j) (v := v) (by rw [eT]; exact A.1) (State.isArrayOf_alike hZ.alike A.2.1) A.2.2 (o_inb r h0 (o_lt_of hv)) (o_elt r h0 hv) (g := mkF m pc L (.int j :: .ref a :: S)) rfl rfl (hb hby hd) t hr) k
theorem o_arraylength (H : oH p l e R s m args below meth c bc ml y rt Z n0 T h cells slots) {a : Addr} {ty : FieldType} {vs : List Value} (z : Int32) (A : oA ty Z h a vs) (hz : vs.length.toInt32 = z) (hd : decode bc pc = .ok (.arraylength, 1)) (hp : pc + 1 = pc') (k : oG p e below s n0 kc ks Q (T.setTop (mkF m pc' L (.int z :: S)))) : oG p e below s n0 kc ks Q (T.setTop (mkF m pc L (.ref a :: S))) := by
  obtain ⟨locs, X, eT, N, hx, hby, hml, hZ, hown, hnm, hret, hlk, hn⟩ := H
  subst hp
  obtain ⟨-, cl, A, r⟩ := A
  have e1 : cl.slots.size.toInt32 = z := by rw [← hz, r]; simp
  exact oG.go (fun t hr => X.arraylength hx (by rw [eT]; exact A.1) (State.isArrayOf_alike hZ.alike A.2.1) (g := mkF m pc L (.ref a :: S)) rfl rfl (hb hby hd) t (by rw [e1]; exact hr)) k
theorem o_iastore (H : oH p l e R s m args below meth c bc ml y rt Z n0 T h cells slots) {a : Addr} {j : Int32} {z : Int32} {vs : List Value} (i : Nat) (A : oA .int Z h a vs) (h0 : j.toInt = (i : Int)) (h1 : i < vs.length) (ha : n0 ≤ a) (hd : decode bc pc = .ok (.iastore, 1)) (hp : pc + 1 = pc')
    (k : ∀ (T' : State) (h' : Heap), oH p l e R s m args below meth c bc ml y rt Z n0 T' h' cells slots → Wr h h' a i (.int z) → oA .int Z h' a (vs.set i (.int z)) → oG p e below s n0 kc ks Q (T'.setTop (mkF m pc' L S))) : oG p e below s n0 kc ks Q (T.setTop (mkF m pc L (.int z :: .int j :: .ref a :: S))) := by
  obtain ⟨locs, X, eT, N, hx, hby, hml, hZ, hown, hnm, hret, hlk, hn⟩ := H
  subst hp
  have A' := A
  obtain ⟨-, cl, A, r⟩ := A
  obtain ⟨T', h', X', e', W, st⟩ := stI X hx hZ eT A (j := j) (o_inb r h0 h1) (g := mkF m pc L (.int z :: .int j :: .ref a :: S)) rfl rfl (hb hby hd)
  have en := o_nat h0
  have W2 : Wr h h' a i _ := en ▸ W
  exact oG.go st (k T' h' ⟨_, X', e', Fr.snoc X' N ha, hx, hby, hml, hZ, hown, hnm, hret, hlk, hn⟩ W2 (A'.same W2))
theorem o_castore (H : oH p l e R s m args below meth c bc ml y rt Z n0 T h cells slots) {a : Addr} {j : Int32} {z : Int32} {vs : List Value} (i : Nat) (A : oA .char Z h a vs) (h0 : j.toInt = (i : Int)) (h1 : i < vs.length) (ha : n0 ≤ a) (hd : decode bc pc = .ok (.castore, 1)) (hp : pc + 1 = pc')
    (k : ∀ (T' : State) (h' : Heap), oH p l e R s m args below meth c bc ml y rt Z n0 T' h' cells slots → Wr h h' a i (.int (nar .char z)) → oA .char Z h' a (vs.set i (.int (nar .char z))) → oG p e below s n0 kc ks Q (T'.setTop (mkF m pc' L S))) : oG p e below s n0 kc ks Q (T.setTop (mkF m pc L (.int z :: .int j :: .ref a :: S))) := by
  obtain ⟨locs, X, eT, N, hx, hby, hml, hZ, hown, hnm, hret, hlk, hn⟩ := H
  subst hp
  have A' := A
  obtain ⟨-, cl, A, r⟩ := A
  obtain ⟨T', h', X', e', W, st⟩ := stC X hx hZ eT A (j := j) (o_inb r h0 h1) (g := mkF m pc L (.int z :: .int j :: .ref a :: S)) rfl rfl (hb hby hd)
  have en := o_nat h0
  have W2 : Wr h h' a i _ := en ▸ W
  exact oG.go st (k T' h' ⟨_, X', e', Fr.snoc X' N ha, hx, hby, hml, hZ, hown, hnm, hret, hlk, hn⟩ W2 (A'.same W2))
theorem o_bastore (H : oH p l e R s m args below meth c bc ml y rt Z n0 T h cells slots) {a : Addr} {j : Int32} {z : Int32} {vs : List Value} (i : Nat) (A : oA .byte Z h a vs) (h0 : j.toInt = (i : Int)) (h1 : i < vs.length) (ha : n0 ≤ a) (hd : decode bc pc = .ok (.bastore, 1)) (hp : pc + 1 = pc')
    (k : ∀ (T' : State) (h' : Heap), oH p l e R s m args below meth c bc ml y rt Z n0 T' h' cells slots → Wr h h' a i (.int (nar .byte z)) → oA .byte Z h' a (vs.set i (.int (nar .byte z))) → oG p e below s n0 kc ks Q (T'.setTop (mkF m pc' L S))) : oG p e below s n0 kc ks Q (T.setTop (mkF m pc L (.int z :: .int j :: .ref a :: S))) := by
  obtain ⟨locs, X, eT, N, hx, hby, hml, hZ, hown, hnm, hret, hlk, hn⟩ := H
  subst hp
  have A' := A
  obtain ⟨-, cl, A, r⟩ := A
  obtain ⟨T', h', X', e', W, st⟩ := stB X hx hZ eT A (j := j) (o_inb r h0 h1) (g := mkF m pc L (.int z :: .int j :: .ref a :: S)) rfl rfl (hb hby hd)
  have en := o_nat h0
  have W2 : Wr h h' a i _ := en ▸ W
  exact oG.go st (k T' h' ⟨_, X', e', Fr.snoc X' N ha, hx, hby, hml, hZ, hown, hnm, hret, hlk, hn⟩ W2 (A'.same W2))
theorem o_lastore (H : oH p l e R s m args below meth c bc ml y rt Z n0 T h cells slots) {a : Addr} {j : Int32} {z : Int64} {vs : List Value} (i : Nat) (A : oA .long Z h a vs) (h0 : j.toInt = (i : Int)) (h1 : i < vs.length) (ha : n0 ≤ a) (hd : decode bc pc = .ok (.lastore, 1)) (hp : pc + 1 = pc')
    (k : ∀ (T' : State) (h' : Heap), oH p l e R s m args below meth c bc ml y rt Z n0 T' h' cells slots → Wr h h' a i (.long z) → oA .long Z h' a (vs.set i (.long z)) → oG p e below s n0 kc ks Q (T'.setTop (mkF m pc' L S))) : oG p e below s n0 kc ks Q (T.setTop (mkF m pc L (.long z :: .int j :: .ref a :: S))) := by
  obtain ⟨locs, X, eT, N, hx, hby, hml, hZ, hown, hnm, hret, hlk, hn⟩ := H
  subst hp
  have A' := A
  obtain ⟨-, cl, A, r⟩ := A
  obtain ⟨T', h', X', e', W, st⟩ := stJ X hx hZ eT A (j := j) (o_inb r h0 h1) (g := mkF m pc L (.long z :: .int j :: .ref a :: S)) rfl rfl (hb hby hd)
  have en := o_nat h0
  have W2 : Wr h h' a i _ := en ▸ W
  exact oG.go st (k T' h' ⟨_, X', e', Fr.snoc X' N ha, hx, hby, hml, hZ, hown, hnm, hret, hlk, hn⟩ W2 (A'.same W2))
theorem o_static (H : oH p l e R s m args below meth c bc ml y rt Z n0 T h cells slots) {yc : MethodName} {bcc : ByteArray} {maxL i : Nat} {rtc : Option FieldType} {rm : Room} {Q' : Option Value → Heap → Prop} {St : List Value} (argsL : List Value) (S : List Value)
    (con : oC l Z n0 yc bcc maxL rtc rm rm.cells rm.slots argsL.toArray h Q') (wl : (Jvm.Cond.methodLink y.cls i yc).before a0 Z = true) (ws : (Jvm.Cond.static yc).before a0 Z = true) (wz : (Jvm.Cond.initialized yc.cls).before a0 Z = true) (wc : (Jvm.Cond.code yc bcc maxL rtc).before a0 Z = true) (hy : yc.cls ≠ "java/lang/invoke/MethodHandle" ∧ yc.cls ≠ "java/lang/invoke/VarHandle") (hlen : ∀ sig, parseMethodDescriptor yc.desc = some sig → argsL.length = sig.parameters.length) (hst : St = argsL.reverse ++ S) (hsz : L.size = ml) (hf : rm.frames + 1 ≤ R.frames) (hlo : (S.map fun v => v.category).sum + (maxL + 11) + rm.locals ≤ R.locals) (hc : cells + rm.cells ≤ R.cells) (hs : slots + rm.slots ≤ R.slots)
    (hd : decode bc pc = .ok (.invokestatic i, 3)) (hp : pc + 3 = pc') (k : ∀ (T' : State) (v : Option Value) (h' : Heap), oH p l e R s m args below meth c bc ml y rt Z n0 T' h' (cells + rm.cells) (slots + rm.slots) → Q' v h' → oG p e below s n0 kc ks Q (T'.setTop (mkF m pc' L (v.toList ++ S)))) : oG p e below s n0 kc ks Q (T.setTop (mkF m pc L St)) := by
  obtain ⟨locs, X, eT, N, hx, hby, hml, hZ, hown, hnm, hret, hlk, hn⟩ := H
  subst hp
  subst hst
  obtain ⟨v, _, ⟨T', L1, k1, n1⟩, -, X', ⟨Lc, hQ, l', y', z'⟩, st⟩ := Jvm.LawKit.callS X hx (y := yc) hown (mvT hZ wl) (mvT hZ ws) (mvT hZ wz) (mvT hZ wc) hy (backOf (W := (S.map fun v => v.category).sum) (Q := fun v h L => Q' v h ∧ Fr n0 L) (con []) hZ wc wz hf hlo) (g := mkF m pc L (argsL.reverse ++ S)) rfl (by rw [hml]; exact hsz) (argsL := argsL) (rest := S) hlen rfl (by show 2 * 0 + _ ≤ _; omega) (hb hby hd) (fun _ _ => ⟨rfl, eT, hc, hs⟩)
  dsimp only [Pt.U, Pt.locs, Pt.cells, Pt.slots] at X' l' y' z' st hQ
  subst l' y' z'
  exact oG.go (st) (k _ _ _ ⟨_, X', rfl, Fr.app N hQ.2, hx, hby, hml, hZ, hown, hnm, hret, hlk, hn⟩ hQ.1)
theorem o_special (H : oH p l e R s m args below meth c bc ml y rt Z n0 T h cells slots) {yc : MethodName} {bcc : ByteArray} {maxL i : Nat} {rm : Room} {a : Addr} {Q' : Option Value → Heap → Prop} {St : List Value} (argsL : List Value) (S : List Value)
    (con : oC l Z n0 yc bcc maxL none rm rm.cells rm.slots (.ref a :: argsL).toArray h Q') (hy1 : yc.name = "<init>") (wl : (Jvm.Cond.methodLink y.cls i yc).before a0 Z = true) (ws : (Jvm.Cond.instanceMethod yc).before a0 Z = true) (wz : (Jvm.Cond.initialized yc.cls).before a0 Z = true) (wc : (Jvm.Cond.code yc bcc maxL none).before a0 Z = true) (hy : yc.cls ≠ "java/lang/invoke/MethodHandle" ∧ yc.cls ≠ "java/lang/invoke/VarHandle") (hlen : ∀ sig, parseMethodDescriptor yc.desc = some sig → argsL.length = sig.parameters.length) (hst : St = argsL.reverse ++ .ref a :: S) (hsz : L.size = ml) (hf : rm.frames + 1 ≤ R.frames) (hlo : (S.map fun v => v.category).sum + (maxL + 11) + rm.locals ≤ R.locals) (hc : cells + rm.cells ≤ R.cells) (hs : slots + rm.slots ≤ R.slots)
    (hd : decode bc pc = .ok (.invokespecial i, 3)) (hp : pc + 3 = pc') (k : ∀ (T' : State) (v : Option Value) (h' : Heap), oH p l e R s m args below meth c bc ml y rt Z n0 T' h' (cells + rm.cells) (slots + rm.slots) → Q' v h' → oG p e below s n0 kc ks Q (T'.setTop (mkF m pc' L (v.toList ++ S)))) : oG p e below s n0 kc ks Q (T.setTop (mkF m pc L St)) := by
  obtain ⟨locs, X, eT, N, hx, hby, hml, hZ, hown, hnm, hret, hlk, hn⟩ := H
  subst hp
  subst hst
  obtain ⟨v, _, ⟨T', L1, k1, n1⟩, -, X', ⟨Lc, hQ, l', y', z'⟩, st⟩ := X.specialBack hx (y := yc) hy1 hown (mvT hZ wl) (mvT hZ ws) (mvT hZ wc) hy (backOf (W := (S.map fun v => v.category).sum) (Q := fun v h L => Q' v h ∧ Fr n0 L) (con []) hZ wc wz hf hlo) (g := mkF m pc L (argsL.reverse ++ .ref a :: S)) rfl (by rw [hml]; exact hsz) (Steps.refl _) (a := a) (argsL := argsL) (rest := S) hlen rfl (by show 2 * 0 + _ ≤ _; omega) (hb hby hd) (fun _ _ => ⟨rfl, eT, hc, hs⟩)
  dsimp only [Pt.U, Pt.locs, Pt.cells, Pt.slots] at X' l' y' z' st hQ
  subst l' y' z'
  exact oG.go (fun _ hr => st.trans hr) (k _ _ _ ⟨_, X', rfl, Fr.app N hQ.2, hx, hby, hml, hZ, hown, hnm, hret, hlk, hn⟩ hQ.1)
theorem o_virtual (H : oH p l e R s m args below meth c bc ml y rt Z n0 T h cells slots) {yc zc : MethodName} {K : String} {bcc : ByteArray} {maxL i : Nat} {rtc : Option FieldType} {rm : Room} {a : Addr} {Q' : Option Value → Heap → Prop} {St : List Value} (argsL : List Value) (S : List Value)
    (con : oC l Z n0 zc bcc maxL rtc rm rm.cells rm.slots (.ref a :: argsL).toArray h Q') (E : Exa Z h a K) (wl : (Jvm.Cond.methodLink y.cls i yc).before a0 Z = true) (wd : (Jvm.Cond.declares yc).before a0 Z = true) (hnf : ∀ {s' : State}, Z.Warmed39 s'.vm → NotFace s' yc) (wsel : (Jvm.Cond.selects K yc zc).before a0 Z = true) (ws : (Jvm.Cond.instanceMethod zc).before a0 Z = true) (wz : (Jvm.Cond.initialized zc.cls).before a0 Z = true) (wc : (Jvm.Cond.code zc bcc maxL rtc).before a0 Z = true) (hy : yc.cls ≠ "java/lang/invoke/MethodHandle" ∧ yc.cls ≠ "java/lang/invoke/VarHandle") (hlen : ∀ sig, parseMethodDescriptor yc.desc = some sig → argsL.length = sig.parameters.length) (hst : St = argsL.reverse ++ .ref a :: S) (hsz : L.size = ml) (hf : rm.frames + 1 ≤ R.frames) (hlo : (S.map fun v => v.category).sum + (maxL + 11) + rm.locals ≤ R.locals) (hc : cells + rm.cells ≤ R.cells) (hs : slots + rm.slots ≤ R.slots)
    (hd : decode bc pc = .ok (.invokevirtual i, 3)) (hp : pc + 3 = pc') (k : ∀ (T' : State) (v : Option Value) (h' : Heap), oH p l e R s m args below meth c bc ml y rt Z n0 T' h' (cells + rm.cells) (slots + rm.slots) → Q' v h' → oG p e below s n0 kc ks Q (T'.setTop (mkF m pc' L (v.toList ++ S)))) : oG p e below s n0 kc ks Q (T.setTop (mkF m pc L St)) := by
  obtain ⟨locs, X, eT, N, hx, hby, hml, hZ, hown, hnm, hret, hlk, hn⟩ := H
  subst hp
  subst hst
  obtain ⟨cq, kq, qa, qb, qc⟩ := isOf hZ eT E
  obtain ⟨v, _, ⟨T', L1, k1, n1⟩, -, X', ⟨Lc, hQ, l', y', z'⟩, st⟩ := X.virtualBack hx (y := yc) (z := zc) hown (mvT hZ wl) (mvT hZ wd) (hnf hZ) (mvT hZ wsel) (mvT hZ ws) hy (backOf (W := (S.map fun v => v.category).sum) (Q := fun v h L => Q' v h ∧ Fr n0 L) (con []) hZ wc wz hf hlo) qa qc (g := mkF m pc L (argsL.reverse ++ .ref a :: S)) rfl (by rw [hml]; exact hsz) (Steps.refl _) (argsL := argsL) (rest := S) hlen rfl (by show 2 * 0 + _ ≤ _; omega) (hb hby hd) (fun _ _ => ⟨rfl, eT, hc, hs⟩)
  dsimp only [Pt.U, Pt.locs, Pt.cells, Pt.slots] at X' l' y' z' st hQ
  subst l' y' z'
  exact oG.go (fun _ hr => st.trans hr) (k _ _ _ ⟨_, X', rfl, Fr.app N hQ.2, hx, hby, hml, hZ, hown, hnm, hret, hlk, hn⟩ hQ.1)
theorem o_nf {yc : MethodName} {K : String} (w : (Jvm.Cond.selects K yc yc).before a0 Z = true) : ∀ {s' : State}, Z.Warmed39 s'.vm → NotFace s' yc := fun {s'} hZ => notFace_of_selects (args := #[]) (mvT hZ w)
theorem n_lt (x z : Int32) : x < z ↔ x.toInt < z.toInt := Int32.lt_iff_toInt_lt
theorem n_eq (x z : Int32) : x = z ↔ x.toInt = z.toInt := Int32.toInt_inj.symm
theorem n_ltJ (x z : Int64) : x < z ↔ x.toInt < z.toInt := Int64.lt_iff_toInt_lt
theorem n_eqJ (x z : Int64) : x = z ↔ x.toInt = z.toInt := Int64.toInt_inj.symm
theorem n_and (x z : Int32) (h : 0 ≤ z.toInt) : 0 ≤ (x &&& z).toInt ∧ (x &&& z).toInt ≤ z.toInt := by
  have q : (x &&& z).toBitVec.toNat = x.toBitVec.toNat &&& z.toBitVec.toNat := by show (x.toBitVec &&& z.toBitVec).toNat = _; rw [BitVec.toNat_and]
  have o : x.toBitVec.toNat &&& z.toBitVec.toNat ≤ z.toBitVec.toNat := Nat.and_le_right
  have lm := z.toBitVec.isLt
  change 0 ≤ z.toBitVec.toInt at h
  show 0 ≤ (x &&& z).toBitVec.toInt ∧ (x &&& z).toBitVec.toInt ≤ z.toBitVec.toInt
  rw [BitVec.toInt_eq_toNat_cond] at h
  simp only [BitVec.toInt_eq_toNat_cond, q]
  split at h <;> (repeat' split) <;> omega
theorem n_andJ (x z : Int64) (h : 0 ≤ z.toInt) : 0 ≤ (x &&& z).toInt ∧ (x &&& z).toInt ≤ z.toInt := by
  have q : (x &&& z).toBitVec.toNat = x.toBitVec.toNat &&& z.toBitVec.toNat := by show (x.toBitVec &&& z.toBitVec).toNat = _; rw [BitVec.toNat_and]
  have o : x.toBitVec.toNat &&& z.toBitVec.toNat ≤ z.toBitVec.toNat := Nat.and_le_right
  have lm := z.toBitVec.isLt
  change 0 ≤ z.toBitVec.toInt at h
  show 0 ≤ (x &&& z).toBitVec.toInt ∧ (x &&& z).toBitVec.toInt ≤ z.toBitVec.toInt
  rw [BitVec.toInt_eq_toNat_cond] at h
  simp only [BitVec.toInt_eq_toNat_cond, q]
  split at h <;> (repeat' split) <;> omega
theorem n_rem (x z : Int32) (d : Int) (hd : 0 < d) (hz : z.toInt = d) (hx : 0 ≤ x.toInt) : (x % z).toInt = x.toInt % d := by
  rw [Int32.toInt_mod, hz, Int.tmod_eq_emod_of_nonneg hx]
theorem n_nat (x : Int32) (n : Nat) (h0 : 0 ≤ x.toInt) (h1 : x.toInt < n) : ∃ i : Fin n, x = Int32.ofNat i.1 := by
  refine ⟨⟨x.toInt.toNat, by omega⟩, ?_⟩
  rw [n_eq]
  have := Int32.toInt_lt x
  have e : (Int32.ofNat x.toInt.toNat).toInt = x.toInt.toNat := Int32.toInt_ofNat_of_lt (by omega)
  show x.toInt = (Int32.ofNat x.toInt.toNat).toInt
  rw [e]; omega
end Own
theorem w0 {Z : State} {a0 : Array Value} (hw : ∀ d ∈ tables_1, d.before a0 Z = true) : (Jvm.Cond.constant "com/example/following_sibling/followingsibling/IndexesWithoutPinLaw" (7 : Nat) (536870911 : Int32)).before a0 Z = true := hw _ (List.mem_of_getElem? (i := 0) rfl)
theorem w1 {Z : State} {a0 : Array Value} (hw : ∀ d ∈ tables_1, d.before a0 Z = true) : (Jvm.Cond.methodLink "com/example/following_sibling/followingsibling/IndexesWithoutPinLaw" (8 : Nat) ({ cls := "com/example/following_sibling/followingsibling/IndexesWithoutPinLaw", name := "pick", desc := "(IIIII)[I" } : Jvm.MethodName)).before a0 Z = true := hw _ (List.mem_of_getElem? (i := 1) rfl)
theorem w2 {Z : State} {a0 : Array Value} (hw : ∀ d ∈ tables_1, d.before a0 Z = true) : (Jvm.Cond.static ({ cls := "com/example/following_sibling/followingsibling/IndexesWithoutPinLaw", name := "pick", desc := "(IIIII)[I" } : Jvm.MethodName)).before a0 Z = true := hw _ (List.mem_of_getElem? (i := 2) rfl)
theorem w3 {Z : State} {a0 : Array Value} (hw : ∀ d ∈ tables_1, d.before a0 Z = true) : (Jvm.Cond.initialized "com/example/following_sibling/followingsibling/IndexesWithoutPinLaw").before a0 Z = true := hw _ (List.mem_of_getElem? (i := 3) rfl)
theorem w4 {Z : State} {a0 : Array Value} (hw : ∀ d ∈ tables_1, d.before a0 Z = true) : (Jvm.Cond.code ({ cls := "com/example/following_sibling/followingsibling/IndexesWithoutPinLaw", name := "pick", desc := "(IIIII)[I" } : Jvm.MethodName) method_3_code (7 : Nat) (Option.some (Jvm.ClassFile.FieldType.array Jvm.ClassFile.FieldType.int))).before a0 Z = true := hw _ (List.mem_of_getElem? (i := 4) rfl)
theorem w5 {Z : State} {a0 : Array Value} (hw : ∀ d ∈ tables_1, d.before a0 Z = true) : (Jvm.Cond.arrayClass Jvm.ClassFile.FieldType.int).before a0 Z = true := hw _ (List.mem_of_getElem? (i := 5) rfl)
theorem w6 {Z : State} {a0 : Array Value} (hw : ∀ d ∈ tables_1, d.before a0 Z = true) : (Jvm.Cond.methodLink "com/example/following_sibling/followingsibling/IndexesWithoutPinLaw" (14 : Nat) ({ cls := "com/example/following_sibling/followingsibling/Indexes", name := "without", desc := "([I[I)[I" } : Jvm.MethodName)).before a0 Z = true := hw _ (List.mem_of_getElem? (i := 6) rfl)
theorem w7 {Z : State} {a0 : Array Value} (hw : ∀ d ∈ tables_1, d.before a0 Z = true) : (Jvm.Cond.static ({ cls := "com/example/following_sibling/followingsibling/Indexes", name := "without", desc := "([I[I)[I" } : Jvm.MethodName)).before a0 Z = true := hw _ (List.mem_of_getElem? (i := 7) rfl)
theorem w8 {Z : State} {a0 : Array Value} (hw : ∀ d ∈ tables_1, d.before a0 Z = true) : (Jvm.Cond.initialized "com/example/following_sibling/followingsibling/Indexes").before a0 Z = true := hw _ (List.mem_of_getElem? (i := 8) rfl)
theorem w9 {Z : State} {a0 : Array Value} (hw : ∀ d ∈ tables_1, d.before a0 Z = true) : (Jvm.Cond.code ({ cls := "com/example/following_sibling/followingsibling/Indexes", name := "without", desc := "([I[I)[I" } : Jvm.MethodName) prog_38_method_3_code (9 : Nat) (Option.some (Jvm.ClassFile.FieldType.array Jvm.ClassFile.FieldType.int))).before a0 Z = true := hw _ (List.mem_of_getElem? (i := 9) rfl)
theorem w10 {Z : State} {a0 : Array Value} (hw : ∀ d ∈ tables_1, d.before a0 Z = true) : (Jvm.Cond.methodLink "com/example/following_sibling/followingsibling/IndexesWithoutPinLaw" (20 : Nat) ({ cls := "com/example/following_sibling/followingsibling/IndexesWithoutPinLaw", name := "same", desc := "([I[I)Z" } : Jvm.MethodName)).before a0 Z = true := hw _ (List.mem_of_getElem? (i := 10) rfl)
theorem w11 {Z : State} {a0 : Array Value} (hw : ∀ d ∈ tables_1, d.before a0 Z = true) : (Jvm.Cond.static ({ cls := "com/example/following_sibling/followingsibling/IndexesWithoutPinLaw", name := "same", desc := "([I[I)Z" } : Jvm.MethodName)).before a0 Z = true := hw _ (List.mem_of_getElem? (i := 11) rfl)
theorem w12 {Z : State} {a0 : Array Value} (hw : ∀ d ∈ tables_1, d.before a0 Z = true) : (Jvm.Cond.code ({ cls := "com/example/following_sibling/followingsibling/IndexesWithoutPinLaw", name := "same", desc := "([I[I)Z" } : Jvm.MethodName) method_4_code (2 : Nat) (Option.some Jvm.ClassFile.FieldType.boolean)).before a0 Z = true := hw _ (List.mem_of_getElem? (i := 12) rfl)
def own_bit (n v : Int32) : Int32 → List Int32 := fun m => if m &&& n = 0 then [] else [v]
def own_pick (v0 v1 v2 v3 m : Int32) : List Int32 := own_bit 1 v0 m ++ (own_bit 2 v1 m ++ (own_bit 4 v2 m ++ own_bit 8 v3 m))
def own_wo : List Int32 → List Int32 → List Int32
  | [], _ => []
  | x :: xs, [] => x :: own_wo xs []
  | x :: xs, y :: ys => if y = x then own_wo xs ys else x :: own_wo xs (y :: ys)
theorem own_wo1 (x : Int32) (xs : List Int32) : own_wo (x :: xs) [] = x :: own_wo xs [] := by simp [own_wo]
theorem own_wo2 (x y : Int32) (xs ys : List Int32) : own_wo (x :: xs) (y :: ys) = if y = x then own_wo xs ys else x :: own_wo xs (y :: ys) := by simp [own_wo]
def own_pb (v0 v1 v2 v3 : Int32) (b0 b1 b2 b3 : Bool) : List Int32 := (if b0 then [v0] else []) ++ ((if b1 then [v1] else []) ++ ((if b2 then [v2] else []) ++ (if b3 then [v3] else [])))
theorem own_pick_eq (v0 v1 v2 v3 m : Int32) : own_pick v0 v1 v2 v3 m = own_pb v0 v1 v2 v3 (decide (¬ m &&& 1 = 0)) (decide (¬ m &&& 2 = 0)) (decide (¬ m &&& 4 = 0)) (decide (¬ m &&& 8 = 0)) := by
  simp only [own_pick, own_pb, own_bit]
  by_cases h1 : m &&& 1 = 0 <;> by_cases h2 : m &&& 2 = 0 <;> by_cases h4 : m &&& 4 = 0 <;> by_cases h8 : m &&& 8 = 0 <;> simp [h1, h2, h4, h8]
theorem own_pb_wo (v0 v1 v2 v3 : Int32) (h01 : ¬ v0 = v1) (h02 : ¬ v0 = v2) (h03 : ¬ v0 = v3) (h12 : ¬ v1 = v2) (h13 : ¬ v1 = v3) (h23 : ¬ v2 = v3) (f0 f1 f2 f3 m0 m1 m2 m3 : Bool) (i0 : m0 → f0) (i1 : m1 → f1) (i2 : m2 → f2) (i3 : m3 → f3) :
    own_wo (own_pb v0 v1 v2 v3 f0 f1 f2 f3) (own_pb v0 v1 v2 v3 m0 m1 m2 m3) = own_pb v0 v1 v2 v3 (f0 && !m0) (f1 && !m1) (f2 && !m2) (f3 && !m3) ∧ (own_pb v0 v1 v2 v3 (f0 && !m0) (f1 && !m1) (f2 && !m2) (f3 && !m3)).length + (own_pb v0 v1 v2 v3 m0 m1 m2 m3).length = (own_pb v0 v1 v2 v3 f0 f1 f2 f3).length := by
  have h10 := Ne.symm h01; have h20 := Ne.symm h02; have h30 := Ne.symm h03; have h21 := Ne.symm h12; have h31 := Ne.symm h13; have h32 := Ne.symm h23
  cases f0 <;> cases m0 <;> first | (exact absurd (i0 rfl) (by decide)) | skip
  all_goals cases f1 <;> cases m1 <;> first | (exact absurd (i1 rfl) (by decide)) | skip
  all_goals cases f2 <;> cases m2 <;> first | (exact absurd (i2 rfl) (by decide)) | skip
  all_goals cases f3 <;> cases m3 <;> first | (exact absurd (i3 rfl) (by decide)) | skip
  all_goals simp [own_pb, own_wo, h01, h02, h03, h12, h13, h23, h10, h20, h30, h21, h31, h32]
theorem own_pb_len (v0 v1 v2 v3 : Int32) (b0 b1 b2 b3 : Bool) : (own_pb v0 v1 v2 v3 b0 b1 b2 b3).length ≤ 4 := by
  cases b0 <;> cases b1 <;> cases b2 <;> cases b3 <;> simp [own_pb]
abbrev own_bits (f m b : Int32) : Prop := (decide (¬ (m &&& b = 0)) → decide (¬ (f &&& b = 0))) ∧ decide (¬ ((f &&& (m ^^^ (-1))) &&& b = 0)) = (decide (¬ (f &&& b = 0)) && !decide (¬ (m &&& b = 0)))
theorem own_fm : ∀ f m : Fin 16, (Int32.ofNat m.1 &&& Int32.ofNat f.1 = Int32.ofNat m.1) → own_bits (Int32.ofNat f.1) (Int32.ofNat m.1) 1 ∧ own_bits (Int32.ofNat f.1) (Int32.ofNat m.1) 2 ∧ own_bits (Int32.ofNat f.1) (Int32.ofNat m.1) 4 ∧ own_bits (Int32.ofNat f.1) (Int32.ofNat m.1) 8 := by decide +kernel
theorem own_shl : ∀ n : Fin 5, 0 ≤ (((1 : Int32) <<< (Int32.ofNat n.1 &&& 31)) - 1).toInt ∧ (((1 : Int32) <<< (Int32.ofNat n.1 &&& 31)) - 1).toInt < 16 := by decide +kernel
theorem own_main (v0 v1 v2 v3 e n f m : Int32) (h01 : ¬ v0 = v1) (h02 : ¬ v0 = v2) (h03 : ¬ v0 = v3) (h12 : ¬ v1 = v2) (h13 : ¬ v1 = v3) (h23 : ¬ v2 = v3) (hn : n = XT.ushr e 4 % 5) (hf : f = ((1 : Int32) <<< (n &&& 31)) - 1) (hm : m = e &&& f) :
    own_wo (own_pick v0 v1 v2 v3 f) (own_pick v0 v1 v2 v3 m) = own_pick v0 v1 v2 v3 (f &&& (m ^^^ (-1))) ∧ (own_wo (own_pick v0 v1 v2 v3 f) (own_pick v0 v1 v2 v3 m)).length + (own_pick v0 v1 v2 v3 m).length = (own_pick v0 v1 v2 v3 f).length := by
  have u1 : (XT.ushr e 4).toInt = (e.toInt % 4294967296) / 16 := c_iushr e 4 4 (by decide) (by decide)
  have u2 := (c_irem (XT.ushr e 4) 5 5 rfl).1 (by omega)
  rw [← hn] at u2
  obtain ⟨n, rfl⟩ := n_nat n 5 (by omega) (by omega)
  have u3 := own_shl n
  rw [← hf] at u3
  have u4 := c_and e f u3.1
  rw [← hm] at u4
  have u5 : m &&& f = m := by rw [hm, Int32.and_assoc, Int32.and_self]
  obtain ⟨f, rfl⟩ := n_nat f 16 (by omega) (by omega)
  obtain ⟨m, rfl⟩ := n_nat m 16 (by omega) (by omega)
  obtain ⟨b0, b1, b2, b3⟩ := own_fm f m u5
  have key := own_pb_wo v0 v1 v2 v3 h01 h02 h03 h12 h13 h23 _ _ _ _ _ _ _ _ b0.1 b1.1 b2.1 b3.1
  rw [own_pick_eq, own_pick_eq, own_pick_eq, b0.2, b1.2, b2.2, b3.2]
  refine ⟨key.1, ?_⟩
  rw [key.1]; exact key.2
theorem own_dist (a b c d i0 i1 i2 i3 : Int32) (e0 : i0 = a &&& 536870911) (e1 : i1 = i0 + (b &&& 536870911) + 1) (e2 : i2 = i1 + (c &&& 536870911) + 1) (e3 : i3 = i2 + (d &&& 536870911) + 1) : ¬ i0 = i1 ∧ ¬ i0 = i2 ∧ ¬ i0 = i3 ∧ ¬ i1 = i2 ∧ ¬ i1 = i3 ∧ ¬ i2 = i3 := by
  have e : (536870911 : Int32).toInt = 536870911 := rfl
  have o : (1 : Int32).toInt = 1 := rfl
  have m0 := c_and a 536870911 (by decide); have m1 := c_and b 536870911 (by decide); have m2 := c_and c 536870911 (by decide); have m3 := c_and d 536870911 (by decide)
  rw [e] at m0 m1 m2 m3
  have add : ∀ x z : Int32, 0 ≤ x.toInt → 0 ≤ z.toInt → x.toInt + z.toInt + 1 < 2147483648 → (x + z + 1).toInt = x.toInt + z.toInt + 1 := by
    intro x z h1 h2 h3
    have q1 : (x + z).toInt = x.toInt + z.toInt := by rw [Int32.toInt_add]; apply Int.bmod_eq_of_le <;> omega
    rw [Int32.toInt_add, q1, o]; apply Int.bmod_eq_of_le <;> omega
  rw [← e0] at m0
  have f1 := add i0 (b &&& 536870911) m0.1 m1.1 (by omega)
  rw [← e1] at f1
  have f2 := add i1 (c &&& 536870911) (by omega) m2.1 (by omega)
  rw [← e2] at f2
  have f3 := add i2 (d &&& 536870911) (by omega) m3.1 (by omega)
  rw [← e3] at f3
  simp only [n_eq]
  refine ⟨by omega, by omega, by omega, by omega, by omega, by omega⟩
theorem d1_0 : decode method_3_code 0 = .ok (.iconst 4, 1) := by decide +kernel
theorem d1_1 : decode method_3_code 1 = .ok (.newarray .int, 2) := by decide +kernel
theorem d1_3 : decode method_3_code 3 = .ok (.astore 5, 2) := by decide +kernel
theorem d1_5 : decode method_3_code 5 = .ok (.iconst 0, 1) := by decide +kernel
theorem d1_6 : decode method_3_code 6 = .ok (.istore 6, 2) := by decide +kernel
theorem d1_8 : decode method_3_code 8 = .ok (.iload 4, 2) := by decide +kernel
theorem d1_10 : decode method_3_code 10 = .ok (.iconst 1, 1) := by decide +kernel
theorem d1_11 : decode method_3_code 11 = .ok (.iand, 1) := by decide +kernel
theorem d1_12 : decode method_3_code 12 = .ok (.ifCond .eq 12, 3) := by decide +kernel
theorem d1_15 : decode method_3_code 15 = .ok (.aload 5, 2) := by decide +kernel
theorem d1_17 : decode method_3_code 17 = .ok (.iload 6, 2) := by decide +kernel
theorem d1_19 : decode method_3_code 19 = .ok (.iload_n 0, 1) := by decide +kernel
theorem d1_20 : decode method_3_code 20 = .ok (.iastore, 1) := by decide +kernel
theorem d1_21 : decode method_3_code 21 = .ok (.iinc 6 1, 3) := by decide +kernel
theorem d1_24 : decode method_3_code 24 = .ok (.iload 4, 2) := by decide +kernel
theorem d1_26 : decode method_3_code 26 = .ok (.iconst 2, 1) := by decide +kernel
theorem d1_27 : decode method_3_code 27 = .ok (.iand, 1) := by decide +kernel
theorem d1_28 : decode method_3_code 28 = .ok (.ifCond .eq 12, 3) := by decide +kernel
theorem d1_31 : decode method_3_code 31 = .ok (.aload 5, 2) := by decide +kernel
theorem d1_33 : decode method_3_code 33 = .ok (.iload 6, 2) := by decide +kernel
theorem d1_35 : decode method_3_code 35 = .ok (.iload_n 1, 1) := by decide +kernel
theorem d1_36 : decode method_3_code 36 = .ok (.iastore, 1) := by decide +kernel
theorem d1_37 : decode method_3_code 37 = .ok (.iinc 6 1, 3) := by decide +kernel
theorem d1_40 : decode method_3_code 40 = .ok (.iload 4, 2) := by decide +kernel
theorem d1_42 : decode method_3_code 42 = .ok (.iconst 4, 1) := by decide +kernel
theorem d1_43 : decode method_3_code 43 = .ok (.iand, 1) := by decide +kernel
theorem d1_44 : decode method_3_code 44 = .ok (.ifCond .eq 12, 3) := by decide +kernel
theorem d1_47 : decode method_3_code 47 = .ok (.aload 5, 2) := by decide +kernel
theorem d1_49 : decode method_3_code 49 = .ok (.iload 6, 2) := by decide +kernel
theorem d1_51 : decode method_3_code 51 = .ok (.iload_n 2, 1) := by decide +kernel
theorem d1_52 : decode method_3_code 52 = .ok (.iastore, 1) := by decide +kernel
theorem d1_53 : decode method_3_code 53 = .ok (.iinc 6 1, 3) := by decide +kernel
theorem d1_56 : decode method_3_code 56 = .ok (.iload 4, 2) := by decide +kernel
theorem d1_58 : decode method_3_code 58 = .ok (.bipush 8, 2) := by decide +kernel
theorem d1_60 : decode method_3_code 60 = .ok (.iand, 1) := by decide +kernel
theorem d1_61 : decode method_3_code 61 = .ok (.ifCond .eq 12, 3) := by decide +kernel
theorem d1_64 : decode method_3_code 64 = .ok (.aload 5, 2) := by decide +kernel
theorem d1_66 : decode method_3_code 66 = .ok (.iload 6, 2) := by decide +kernel
theorem d1_68 : decode method_3_code 68 = .ok (.iload_n 3, 1) := by decide +kernel
theorem d1_69 : decode method_3_code 69 = .ok (.iastore, 1) := by decide +kernel
theorem d1_70 : decode method_3_code 70 = .ok (.iinc 6 1, 3) := by decide +kernel
theorem d1_73 : decode method_3_code 73 = .ok (.iload 6, 2) := by decide +kernel
theorem d1_75 : decode method_3_code 75 = .ok (.ifCond .ne 7, 3) := by decide +kernel
theorem d1_78 : decode method_3_code 78 = .ok (.iconst 0, 1) := by decide +kernel
theorem d1_79 : decode method_3_code 79 = .ok (.newarray .int, 2) := by decide +kernel
theorem d1_81 : decode method_3_code 81 = .ok (.areturn, 1) := by decide +kernel
theorem d1_82 : decode method_3_code 82 = .ok (.iload 6, 2) := by decide +kernel
theorem d1_84 : decode method_3_code 84 = .ok (.iconst 1, 1) := by decide +kernel
theorem d1_85 : decode method_3_code 85 = .ok (.if_icmp .ne 14, 3) := by decide +kernel
theorem d1_88 : decode method_3_code 88 = .ok (.iconst 1, 1) := by decide +kernel
theorem d1_89 : decode method_3_code 89 = .ok (.newarray .int, 2) := by decide +kernel
theorem d1_91 : decode method_3_code 91 = .ok (.dup, 1) := by decide +kernel
theorem d1_92 : decode method_3_code 92 = .ok (.iconst 0, 1) := by decide +kernel
theorem d1_93 : decode method_3_code 93 = .ok (.aload 5, 2) := by decide +kernel
theorem d1_95 : decode method_3_code 95 = .ok (.iconst 0, 1) := by decide +kernel
theorem d1_96 : decode method_3_code 96 = .ok (.iaload, 1) := by decide +kernel
theorem d1_97 : decode method_3_code 97 = .ok (.iastore, 1) := by decide +kernel
theorem d1_98 : decode method_3_code 98 = .ok (.areturn, 1) := by decide +kernel
theorem d1_99 : decode method_3_code 99 = .ok (.iload 6, 2) := by decide +kernel
theorem d1_101 : decode method_3_code 101 = .ok (.iconst 2, 1) := by decide +kernel
theorem d1_102 : decode method_3_code 102 = .ok (.if_icmp .ne 21, 3) := by decide +kernel
theorem d1_105 : decode method_3_code 105 = .ok (.iconst 2, 1) := by decide +kernel
theorem d1_106 : decode method_3_code 106 = .ok (.newarray .int, 2) := by decide +kernel
theorem d1_108 : decode method_3_code 108 = .ok (.dup, 1) := by decide +kernel
theorem d1_109 : decode method_3_code 109 = .ok (.iconst 0, 1) := by decide +kernel
theorem d1_110 : decode method_3_code 110 = .ok (.aload 5, 2) := by decide +kernel
theorem d1_112 : decode method_3_code 112 = .ok (.iconst 0, 1) := by decide +kernel
theorem d1_113 : decode method_3_code 113 = .ok (.iaload, 1) := by decide +kernel
theorem d1_114 : decode method_3_code 114 = .ok (.iastore, 1) := by decide +kernel
theorem d1_115 : decode method_3_code 115 = .ok (.dup, 1) := by decide +kernel
theorem d1_116 : decode method_3_code 116 = .ok (.iconst 1, 1) := by decide +kernel
theorem d1_117 : decode method_3_code 117 = .ok (.aload 5, 2) := by decide +kernel
theorem d1_119 : decode method_3_code 119 = .ok (.iconst 1, 1) := by decide +kernel
theorem d1_120 : decode method_3_code 120 = .ok (.iaload, 1) := by decide +kernel
theorem d1_121 : decode method_3_code 121 = .ok (.iastore, 1) := by decide +kernel
theorem d1_122 : decode method_3_code 122 = .ok (.areturn, 1) := by decide +kernel
theorem d1_123 : decode method_3_code 123 = .ok (.iload 6, 2) := by decide +kernel
theorem d1_125 : decode method_3_code 125 = .ok (.iconst 3, 1) := by decide +kernel
theorem d1_126 : decode method_3_code 126 = .ok (.if_icmp .ne 28, 3) := by decide +kernel
theorem d1_129 : decode method_3_code 129 = .ok (.iconst 3, 1) := by decide +kernel
theorem d1_130 : decode method_3_code 130 = .ok (.newarray .int, 2) := by decide +kernel
theorem d1_132 : decode method_3_code 132 = .ok (.dup, 1) := by decide +kernel
theorem d1_133 : decode method_3_code 133 = .ok (.iconst 0, 1) := by decide +kernel
theorem d1_134 : decode method_3_code 134 = .ok (.aload 5, 2) := by decide +kernel
theorem d1_136 : decode method_3_code 136 = .ok (.iconst 0, 1) := by decide +kernel
theorem d1_137 : decode method_3_code 137 = .ok (.iaload, 1) := by decide +kernel
theorem d1_138 : decode method_3_code 138 = .ok (.iastore, 1) := by decide +kernel
theorem d1_139 : decode method_3_code 139 = .ok (.dup, 1) := by decide +kernel
theorem d1_140 : decode method_3_code 140 = .ok (.iconst 1, 1) := by decide +kernel
theorem d1_141 : decode method_3_code 141 = .ok (.aload 5, 2) := by decide +kernel
theorem d1_143 : decode method_3_code 143 = .ok (.iconst 1, 1) := by decide +kernel
theorem d1_144 : decode method_3_code 144 = .ok (.iaload, 1) := by decide +kernel
theorem d1_145 : decode method_3_code 145 = .ok (.iastore, 1) := by decide +kernel
theorem d1_146 : decode method_3_code 146 = .ok (.dup, 1) := by decide +kernel
theorem d1_147 : decode method_3_code 147 = .ok (.iconst 2, 1) := by decide +kernel
theorem d1_148 : decode method_3_code 148 = .ok (.aload 5, 2) := by decide +kernel
theorem d1_150 : decode method_3_code 150 = .ok (.iconst 2, 1) := by decide +kernel
theorem d1_151 : decode method_3_code 151 = .ok (.iaload, 1) := by decide +kernel
theorem d1_152 : decode method_3_code 152 = .ok (.iastore, 1) := by decide +kernel
theorem d1_153 : decode method_3_code 153 = .ok (.areturn, 1) := by decide +kernel
theorem d1_154 : decode method_3_code 154 = .ok (.iconst 4, 1) := by decide +kernel
theorem d1_155 : decode method_3_code 155 = .ok (.newarray .int, 2) := by decide +kernel
theorem d1_157 : decode method_3_code 157 = .ok (.dup, 1) := by decide +kernel
theorem d1_158 : decode method_3_code 158 = .ok (.iconst 0, 1) := by decide +kernel
theorem d1_159 : decode method_3_code 159 = .ok (.aload 5, 2) := by decide +kernel
theorem d1_161 : decode method_3_code 161 = .ok (.iconst 0, 1) := by decide +kernel
theorem d1_162 : decode method_3_code 162 = .ok (.iaload, 1) := by decide +kernel
theorem d1_163 : decode method_3_code 163 = .ok (.iastore, 1) := by decide +kernel
theorem d1_164 : decode method_3_code 164 = .ok (.dup, 1) := by decide +kernel
theorem d1_165 : decode method_3_code 165 = .ok (.iconst 1, 1) := by decide +kernel
theorem d1_166 : decode method_3_code 166 = .ok (.aload 5, 2) := by decide +kernel
theorem d1_168 : decode method_3_code 168 = .ok (.iconst 1, 1) := by decide +kernel
theorem d1_169 : decode method_3_code 169 = .ok (.iaload, 1) := by decide +kernel
theorem d1_170 : decode method_3_code 170 = .ok (.iastore, 1) := by decide +kernel
theorem d1_171 : decode method_3_code 171 = .ok (.dup, 1) := by decide +kernel
theorem d1_172 : decode method_3_code 172 = .ok (.iconst 2, 1) := by decide +kernel
theorem d1_173 : decode method_3_code 173 = .ok (.aload 5, 2) := by decide +kernel
theorem d1_175 : decode method_3_code 175 = .ok (.iconst 2, 1) := by decide +kernel
theorem d1_176 : decode method_3_code 176 = .ok (.iaload, 1) := by decide +kernel
theorem d1_177 : decode method_3_code 177 = .ok (.iastore, 1) := by decide +kernel
theorem d1_178 : decode method_3_code 178 = .ok (.dup, 1) := by decide +kernel
theorem d1_179 : decode method_3_code 179 = .ok (.iconst 3, 1) := by decide +kernel
theorem d1_180 : decode method_3_code 180 = .ok (.aload 5, 2) := by decide +kernel
theorem d1_182 : decode method_3_code 182 = .ok (.iconst 3, 1) := by decide +kernel
theorem d1_183 : decode method_3_code 183 = .ok (.iaload, 1) := by decide +kernel
theorem d1_184 : decode method_3_code 184 = .ok (.iastore, 1) := by decide +kernel
theorem d1_185 : decode method_3_code 185 = .ok (.areturn, 1) := by decide +kernel
theorem pn1 : plainFor (⟨"com/example/following_sibling/followingsibling/IndexesWithoutPinLaw", "pick", "(IIIII)[I"⟩ : MethodName) = true := plainFor_of_name (by first | (simp [plainName, overriddenIn]; done) | decide +kernel)
theorem pd1 : parseMethodDescriptor "(IIIII)[I" = some ⟨[.int, .int, .int, .int, .int], some (.array .int)⟩ := by decide +kernel
set_option maxRecDepth 65536 in
set_option maxHeartbeats 40000000 in
theorem rm1 (l : Launch) (Z : State) (a0 : Array Value) (hw : ∀ d ∈ tables_1, d.before a0 Z = true) (p1 : Int32) (p2 : Int32) (p3 : Int32) (p4 : Int32) (p5 : Int32)  (h0 : Heap) (n0 : Nat) (Z0 : n0 ≤ h0.size)  :
    oC l Z n0 (⟨"com/example/following_sibling/followingsibling/IndexesWithoutPinLaw", "pick", "(IIIII)[I"⟩ : MethodName) method_3_code 7 (some (.array .int)) ({ frames := 0, cells := 2, slots := 8, locals := 0 } : Room) 2 8 #[(.int p1), (.int p2), (.int p3), (.int p4), (.int p5)] h0 (fun v h => ∃ r, v = some (.ref r) ∧ Keep h0 h [] ∧ h0.size ≤ r ∧ oA .int Z h r ((own_pick p1 p2 p3 p4 p5).map Value.int)) := by
  refine oC.of (L := #[.val (.int p1), .val (.int p2), .val (.int p3), .val (.int p4), .val (.int p5), .unset, .unset]) pn1 Z0 (fun m => by first | (simp [entryFrame, mkF, argsToLocals, Value.category]; done) | rfl) ?_
  intro p e s m below meth c T H
  refine o_iconst H (4 : Int32) rfl d1_0 rfl ?_
  refine o_newarr (aty := .int) H 4 4 (w5 hw) (by decide) (by decide) (by decide) d1_1 rfl (by decide) (by decide) ?_
  intro T1 h1 b1 g1 H1 E1 A1
  have z1 : n0 ≤ b1 := by rw [g1]; exact H.le
  have y1 : h0.size ≤ b1 := by rw [g1]; exact (Keep.refl h0 []).1
  have k2 := (Keep.refl h0 []).ext E1
  have f3 : oA .int Z h1 b1 [(.int 0), (.int 0), (.int 0), (.int 0)] := A1
  refine o_astore H1 (L' := #[.val (.int p1), .val (.int p2), .val (.int p3), .val (.int p4), .val (.int p5), .val (.ref b1), .unset]) rfl rfl d1_3 rfl ?_
  refine o_iconst H1 (0 : Int32) rfl d1_5 rfl ?_
  refine o_istore H1 (L' := #[.val (.int p1), .val (.int p2), .val (.int p3), .val (.int p4), .val (.int p5), .val (.ref b1), .val (.int (0 : Int32))]) rfl d1_6 rfl ?_
  refine o_iload H1 rfl d1_8 rfl ?_
  refine o_iconst H1 (1 : Int32) rfl d1_10 rfl ?_
  refine o_iand H1 d1_11 rfl ?_
  refine o_if_eq H1 d1_12 (pt := 24) (by decide) (by decide) rfl ?_ ?_
  · intro c12_4
    refine o_iload H1 rfl d1_24 rfl ?_
    refine o_iconst H1 (2 : Int32) rfl d1_26 rfl ?_
    refine o_iand H1 d1_27 rfl ?_
    refine o_if_eq H1 d1_28 (pt := 40) (by decide) (by decide) rfl ?_ ?_
    · intro c28_5
      refine o_iload H1 rfl d1_40 rfl ?_
      refine o_iconst H1 (4 : Int32) rfl d1_42 rfl ?_
      refine o_iand H1 d1_43 rfl ?_
      refine o_if_eq H1 d1_44 (pt := 56) (by decide) (by decide) rfl ?_ ?_
      · intro c44_6
        refine o_iload H1 rfl d1_56 rfl ?_
        refine o_bipush H1 (8 : Int32) rfl d1_58 rfl ?_
        refine o_iand H1 d1_60 rfl ?_
        refine o_if_eq H1 d1_61 (pt := 73) (by decide) (by decide) rfl ?_ ?_
        · intro c61_7
          refine o_iload H1 rfl d1_73 rfl ?_
          refine o_if_f H1 d1_75 (by decide) rfl ?_
          refine o_iconst H1 (0 : Int32) rfl d1_78 rfl ?_
          refine o_newarr (aty := .int) H1 0 0 (w5 hw) (by decide) (by decide) (by decide) d1_79 rfl (by decide) (by decide) ?_
          intro T8 h8 b8 g8 H8 E8 A8
          have ne8_b1 : b1 ≠ b8 := by rw [g8]; exact Nat.ne_of_lt (f3).lt
          have z8 : n0 ≤ b8 := by rw [g8]; exact H1.le
          have y8 : h0.size ≤ b8 := by rw [g8]; exact k2.1
          have k9 := k2.ext E8
          have f10 := f3.ext E8
          have f11 : oA .int Z h8 b8 [] := A8
          exact o_areturn H8 rfl rfl rfl rfl d1_81 (by decide) (by decide) ⟨_, rfl, k9, y8, (by simpa [own_pick, own_bit, c12_4, c28_5, c44_6, c61_7] using f11)⟩
        · intro c61_7
          refine o_aload H1 rfl rfl d1_64 rfl ?_
          refine o_iload H1 rfl d1_66 rfl ?_
          refine o_iloadN H1 rfl d1_68 rfl ?_
          refine o_iastore H1 0 f3 (by decide) (Nat.le_of_ble_eq_true rfl) z1 d1_69 rfl ?_
          intro T12 h12 H12 W12 A12
          have k13 := k2.wr W12 (Or.inr y1)
          have f14 : oA .int Z h12 b1 [(.int p4), (.int 0), (.int 0), (.int 0)] := A12
          refine o_iinc H12 (1 : Int32) (1 : Int32) rfl (by decide) rfl (L' := #[.val (.int p1), .val (.int p2), .val (.int p3), .val (.int p4), .val (.int p5), .val (.ref b1), .val (.int (1 : Int32))]) rfl d1_70 rfl ?_
          refine o_iload H12 rfl d1_73 rfl ?_
          refine o_if_t H12 d1_75 (by decide) (pt := 82) (by decide) (by decide) ?_
          refine o_iload H12 rfl d1_82 rfl ?_
          refine o_iconst H12 (1 : Int32) rfl d1_84 rfl ?_
          refine o_icmp_f H12 d1_85 (by decide) rfl ?_
          refine o_iconst H12 (1 : Int32) rfl d1_88 rfl ?_
          refine o_newarr (aty := .int) H12 1 1 (w5 hw) (by decide) (by decide) (by decide) d1_89 rfl (by decide) (by decide) ?_
          intro T15 h15 b15 g15 H15 E15 A15
          have ne15_b1 : b1 ≠ b15 := by rw [g15]; exact Nat.ne_of_lt (f14).lt
          have z15 : n0 ≤ b15 := by rw [g15]; exact H12.le
          have y15 : h0.size ≤ b15 := by rw [g15]; exact k13.1
          have k16 := k13.ext E15
          have f17 := f14.ext E15
          have f18 : oA .int Z h15 b15 [(.int 0)] := A15
          refine o_dup H15 rfl d1_91 rfl ?_
          refine o_iconst H15 (0 : Int32) rfl d1_92 rfl ?_
          refine o_aload H15 rfl rfl d1_93 rfl ?_
          refine o_iconst H15 (0 : Int32) rfl d1_95 rfl ?_
          refine o_iaload H15 0 (.int p4) f17 (by decide) rfl d1_96 rfl ?_
          refine o_iastore H15 0 f18 (by decide) (Nat.le_of_ble_eq_true rfl) z15 d1_97 rfl ?_
          intro T19 h19 H19 W19 A19
          have k20 := k16.wr W19 (Or.inr y15)
          have f21 := f17.other W19 ne15_b1
          have f22 : oA .int Z h19 b15 [(.int p4)] := A19
          exact o_areturn H19 rfl rfl rfl rfl d1_98 (by decide) (by decide) ⟨_, rfl, k20, y15, (by simpa [own_pick, own_bit, c12_4, c28_5, c44_6, c61_7] using f22)⟩
      · intro c44_6
        refine o_aload H1 rfl rfl d1_47 rfl ?_
        refine o_iload H1 rfl d1_49 rfl ?_
        refine o_iloadN H1 rfl d1_51 rfl ?_
        refine o_iastore H1 0 f3 (by decide) (Nat.le_of_ble_eq_true rfl) z1 d1_52 rfl ?_
        intro T23 h23 H23 W23 A23
        have k24 := k2.wr W23 (Or.inr y1)
        have f25 : oA .int Z h23 b1 [(.int p3), (.int 0), (.int 0), (.int 0)] := A23
        refine o_iinc H23 (1 : Int32) (1 : Int32) rfl (by decide) rfl (L' := #[.val (.int p1), .val (.int p2), .val (.int p3), .val (.int p4), .val (.int p5), .val (.ref b1), .val (.int (1 : Int32))]) rfl d1_53 rfl ?_
        refine o_iload H23 rfl d1_56 rfl ?_
        refine o_bipush H23 (8 : Int32) rfl d1_58 rfl ?_
        refine o_iand H23 d1_60 rfl ?_
        refine o_if_eq H23 d1_61 (pt := 73) (by decide) (by decide) rfl ?_ ?_
        · intro c61_26
          refine o_iload H23 rfl d1_73 rfl ?_
          refine o_if_t H23 d1_75 (by decide) (pt := 82) (by decide) (by decide) ?_
          refine o_iload H23 rfl d1_82 rfl ?_
          refine o_iconst H23 (1 : Int32) rfl d1_84 rfl ?_
          refine o_icmp_f H23 d1_85 (by decide) rfl ?_
          refine o_iconst H23 (1 : Int32) rfl d1_88 rfl ?_
          refine o_newarr (aty := .int) H23 1 1 (w5 hw) (by decide) (by decide) (by decide) d1_89 rfl (by decide) (by decide) ?_
          intro T27 h27 b27 g27 H27 E27 A27
          have ne27_b1 : b1 ≠ b27 := by rw [g27]; exact Nat.ne_of_lt (f25).lt
          have z27 : n0 ≤ b27 := by rw [g27]; exact H23.le
          have y27 : h0.size ≤ b27 := by rw [g27]; exact k24.1
          have k28 := k24.ext E27
          have f29 := f25.ext E27
          have f30 : oA .int Z h27 b27 [(.int 0)] := A27
          refine o_dup H27 rfl d1_91 rfl ?_
          refine o_iconst H27 (0 : Int32) rfl d1_92 rfl ?_
          refine o_aload H27 rfl rfl d1_93 rfl ?_
          refine o_iconst H27 (0 : Int32) rfl d1_95 rfl ?_
          refine o_iaload H27 0 (.int p3) f29 (by decide) rfl d1_96 rfl ?_
          refine o_iastore H27 0 f30 (by decide) (Nat.le_of_ble_eq_true rfl) z27 d1_97 rfl ?_
          intro T31 h31 H31 W31 A31
          have k32 := k28.wr W31 (Or.inr y27)
          have f33 := f29.other W31 ne27_b1
          have f34 : oA .int Z h31 b27 [(.int p3)] := A31
          exact o_areturn H31 rfl rfl rfl rfl d1_98 (by decide) (by decide) ⟨_, rfl, k32, y27, (by simpa [own_pick, own_bit, c12_4, c28_5, c44_6, c61_26] using f34)⟩
        · intro c61_26
          refine o_aload H23 rfl rfl d1_64 rfl ?_
          refine o_iload H23 rfl d1_66 rfl ?_
          refine o_iloadN H23 rfl d1_68 rfl ?_
          refine o_iastore H23 1 f25 (by decide) (Nat.le_of_ble_eq_true rfl) z1 d1_69 rfl ?_
          intro T35 h35 H35 W35 A35
          have k36 := k24.wr W35 (Or.inr y1)
          have f37 : oA .int Z h35 b1 [(.int p3), (.int p4), (.int 0), (.int 0)] := A35
          refine o_iinc H35 (1 : Int32) (2 : Int32) rfl (by decide) rfl (L' := #[.val (.int p1), .val (.int p2), .val (.int p3), .val (.int p4), .val (.int p5), .val (.ref b1), .val (.int (2 : Int32))]) rfl d1_70 rfl ?_
          refine o_iload H35 rfl d1_73 rfl ?_
          refine o_if_t H35 d1_75 (by decide) (pt := 82) (by decide) (by decide) ?_
          refine o_iload H35 rfl d1_82 rfl ?_
          refine o_iconst H35 (1 : Int32) rfl d1_84 rfl ?_
          refine o_icmp_t H35 d1_85 (by decide) (pt := 99) (by decide) (by decide) ?_
          refine o_iload H35 rfl d1_99 rfl ?_
          refine o_iconst H35 (2 : Int32) rfl d1_101 rfl ?_
          refine o_icmp_f H35 d1_102 (by decide) rfl ?_
          refine o_iconst H35 (2 : Int32) rfl d1_105 rfl ?_
          refine o_newarr (aty := .int) H35 2 2 (w5 hw) (by decide) (by decide) (by decide) d1_106 rfl (by decide) (by decide) ?_
          intro T38 h38 b38 g38 H38 E38 A38
          have ne38_b1 : b1 ≠ b38 := by rw [g38]; exact Nat.ne_of_lt (f37).lt
          have z38 : n0 ≤ b38 := by rw [g38]; exact H35.le
          have y38 : h0.size ≤ b38 := by rw [g38]; exact k36.1
          have k39 := k36.ext E38
          have f40 := f37.ext E38
          have f41 : oA .int Z h38 b38 [(.int 0), (.int 0)] := A38
          refine o_dup H38 rfl d1_108 rfl ?_
          refine o_iconst H38 (0 : Int32) rfl d1_109 rfl ?_
          refine o_aload H38 rfl rfl d1_110 rfl ?_
          refine o_iconst H38 (0 : Int32) rfl d1_112 rfl ?_
          refine o_iaload H38 0 (.int p3) f40 (by decide) rfl d1_113 rfl ?_
          refine o_iastore H38 0 f41 (by decide) (Nat.le_of_ble_eq_true rfl) z38 d1_114 rfl ?_
          intro T42 h42 H42 W42 A42
          have k43 := k39.wr W42 (Or.inr y38)
          have f44 := f40.other W42 ne38_b1
          have f45 : oA .int Z h42 b38 [(.int p3), (.int 0)] := A42
          refine o_dup H42 rfl d1_115 rfl ?_
          refine o_iconst H42 (1 : Int32) rfl d1_116 rfl ?_
          refine o_aload H42 rfl rfl d1_117 rfl ?_
          refine o_iconst H42 (1 : Int32) rfl d1_119 rfl ?_
          refine o_iaload H42 1 (.int p4) f44 (by decide) rfl d1_120 rfl ?_
          refine o_iastore H42 1 f45 (by decide) (Nat.le_of_ble_eq_true rfl) z38 d1_121 rfl ?_
          intro T46 h46 H46 W46 A46
          have k47 := k43.wr W46 (Or.inr y38)
          have f48 := f44.other W46 ne38_b1
          have f49 : oA .int Z h46 b38 [(.int p3), (.int p4)] := A46
          exact o_areturn H46 rfl rfl rfl rfl d1_122 (by decide) (by decide) ⟨_, rfl, k47, y38, (by simpa [own_pick, own_bit, c12_4, c28_5, c44_6, c61_26] using f49)⟩
    · intro c28_5
      refine o_aload H1 rfl rfl d1_31 rfl ?_
      refine o_iload H1 rfl d1_33 rfl ?_
      refine o_iloadN H1 rfl d1_35 rfl ?_
      refine o_iastore H1 0 f3 (by decide) (Nat.le_of_ble_eq_true rfl) z1 d1_36 rfl ?_
      intro T50 h50 H50 W50 A50
      have k51 := k2.wr W50 (Or.inr y1)
      have f52 : oA .int Z h50 b1 [(.int p2), (.int 0), (.int 0), (.int 0)] := A50
      refine o_iinc H50 (1 : Int32) (1 : Int32) rfl (by decide) rfl (L' := #[.val (.int p1), .val (.int p2), .val (.int p3), .val (.int p4), .val (.int p5), .val (.ref b1), .val (.int (1 : Int32))]) rfl d1_37 rfl ?_
      refine o_iload H50 rfl d1_40 rfl ?_
      refine o_iconst H50 (4 : Int32) rfl d1_42 rfl ?_
      refine o_iand H50 d1_43 rfl ?_
      refine o_if_eq H50 d1_44 (pt := 56) (by decide) (by decide) rfl ?_ ?_
      · intro c44_53
        refine o_iload H50 rfl d1_56 rfl ?_
        refine o_bipush H50 (8 : Int32) rfl d1_58 rfl ?_
        refine o_iand H50 d1_60 rfl ?_
        refine o_if_eq H50 d1_61 (pt := 73) (by decide) (by decide) rfl ?_ ?_
        · intro c61_54
          refine o_iload H50 rfl d1_73 rfl ?_
          refine o_if_t H50 d1_75 (by decide) (pt := 82) (by decide) (by decide) ?_
          refine o_iload H50 rfl d1_82 rfl ?_
          refine o_iconst H50 (1 : Int32) rfl d1_84 rfl ?_
          refine o_icmp_f H50 d1_85 (by decide) rfl ?_
          refine o_iconst H50 (1 : Int32) rfl d1_88 rfl ?_
          refine o_newarr (aty := .int) H50 1 1 (w5 hw) (by decide) (by decide) (by decide) d1_89 rfl (by decide) (by decide) ?_
          intro T55 h55 b55 g55 H55 E55 A55
          have ne55_b1 : b1 ≠ b55 := by rw [g55]; exact Nat.ne_of_lt (f52).lt
          have z55 : n0 ≤ b55 := by rw [g55]; exact H50.le
          have y55 : h0.size ≤ b55 := by rw [g55]; exact k51.1
          have k56 := k51.ext E55
          have f57 := f52.ext E55
          have f58 : oA .int Z h55 b55 [(.int 0)] := A55
          refine o_dup H55 rfl d1_91 rfl ?_
          refine o_iconst H55 (0 : Int32) rfl d1_92 rfl ?_
          refine o_aload H55 rfl rfl d1_93 rfl ?_
          refine o_iconst H55 (0 : Int32) rfl d1_95 rfl ?_
          refine o_iaload H55 0 (.int p2) f57 (by decide) rfl d1_96 rfl ?_
          refine o_iastore H55 0 f58 (by decide) (Nat.le_of_ble_eq_true rfl) z55 d1_97 rfl ?_
          intro T59 h59 H59 W59 A59
          have k60 := k56.wr W59 (Or.inr y55)
          have f61 := f57.other W59 ne55_b1
          have f62 : oA .int Z h59 b55 [(.int p2)] := A59
          exact o_areturn H59 rfl rfl rfl rfl d1_98 (by decide) (by decide) ⟨_, rfl, k60, y55, (by simpa [own_pick, own_bit, c12_4, c28_5, c44_53, c61_54] using f62)⟩
        · intro c61_54
          refine o_aload H50 rfl rfl d1_64 rfl ?_
          refine o_iload H50 rfl d1_66 rfl ?_
          refine o_iloadN H50 rfl d1_68 rfl ?_
          refine o_iastore H50 1 f52 (by decide) (Nat.le_of_ble_eq_true rfl) z1 d1_69 rfl ?_
          intro T63 h63 H63 W63 A63
          have k64 := k51.wr W63 (Or.inr y1)
          have f65 : oA .int Z h63 b1 [(.int p2), (.int p4), (.int 0), (.int 0)] := A63
          refine o_iinc H63 (1 : Int32) (2 : Int32) rfl (by decide) rfl (L' := #[.val (.int p1), .val (.int p2), .val (.int p3), .val (.int p4), .val (.int p5), .val (.ref b1), .val (.int (2 : Int32))]) rfl d1_70 rfl ?_
          refine o_iload H63 rfl d1_73 rfl ?_
          refine o_if_t H63 d1_75 (by decide) (pt := 82) (by decide) (by decide) ?_
          refine o_iload H63 rfl d1_82 rfl ?_
          refine o_iconst H63 (1 : Int32) rfl d1_84 rfl ?_
          refine o_icmp_t H63 d1_85 (by decide) (pt := 99) (by decide) (by decide) ?_
          refine o_iload H63 rfl d1_99 rfl ?_
          refine o_iconst H63 (2 : Int32) rfl d1_101 rfl ?_
          refine o_icmp_f H63 d1_102 (by decide) rfl ?_
          refine o_iconst H63 (2 : Int32) rfl d1_105 rfl ?_
          refine o_newarr (aty := .int) H63 2 2 (w5 hw) (by decide) (by decide) (by decide) d1_106 rfl (by decide) (by decide) ?_
          intro T66 h66 b66 g66 H66 E66 A66
          have ne66_b1 : b1 ≠ b66 := by rw [g66]; exact Nat.ne_of_lt (f65).lt
          have z66 : n0 ≤ b66 := by rw [g66]; exact H63.le
          have y66 : h0.size ≤ b66 := by rw [g66]; exact k64.1
          have k67 := k64.ext E66
          have f68 := f65.ext E66
          have f69 : oA .int Z h66 b66 [(.int 0), (.int 0)] := A66
          refine o_dup H66 rfl d1_108 rfl ?_
          refine o_iconst H66 (0 : Int32) rfl d1_109 rfl ?_
          refine o_aload H66 rfl rfl d1_110 rfl ?_
          refine o_iconst H66 (0 : Int32) rfl d1_112 rfl ?_
          refine o_iaload H66 0 (.int p2) f68 (by decide) rfl d1_113 rfl ?_
          refine o_iastore H66 0 f69 (by decide) (Nat.le_of_ble_eq_true rfl) z66 d1_114 rfl ?_
          intro T70 h70 H70 W70 A70
          have k71 := k67.wr W70 (Or.inr y66)
          have f72 := f68.other W70 ne66_b1
          have f73 : oA .int Z h70 b66 [(.int p2), (.int 0)] := A70
          refine o_dup H70 rfl d1_115 rfl ?_
          refine o_iconst H70 (1 : Int32) rfl d1_116 rfl ?_
          refine o_aload H70 rfl rfl d1_117 rfl ?_
          refine o_iconst H70 (1 : Int32) rfl d1_119 rfl ?_
          refine o_iaload H70 1 (.int p4) f72 (by decide) rfl d1_120 rfl ?_
          refine o_iastore H70 1 f73 (by decide) (Nat.le_of_ble_eq_true rfl) z66 d1_121 rfl ?_
          intro T74 h74 H74 W74 A74
          have k75 := k71.wr W74 (Or.inr y66)
          have f76 := f72.other W74 ne66_b1
          have f77 : oA .int Z h74 b66 [(.int p2), (.int p4)] := A74
          exact o_areturn H74 rfl rfl rfl rfl d1_122 (by decide) (by decide) ⟨_, rfl, k75, y66, (by simpa [own_pick, own_bit, c12_4, c28_5, c44_53, c61_54] using f77)⟩
      · intro c44_53
        refine o_aload H50 rfl rfl d1_47 rfl ?_
        refine o_iload H50 rfl d1_49 rfl ?_
        refine o_iloadN H50 rfl d1_51 rfl ?_
        refine o_iastore H50 1 f52 (by decide) (Nat.le_of_ble_eq_true rfl) z1 d1_52 rfl ?_
        intro T78 h78 H78 W78 A78
        have k79 := k51.wr W78 (Or.inr y1)
        have f80 : oA .int Z h78 b1 [(.int p2), (.int p3), (.int 0), (.int 0)] := A78
        refine o_iinc H78 (1 : Int32) (2 : Int32) rfl (by decide) rfl (L' := #[.val (.int p1), .val (.int p2), .val (.int p3), .val (.int p4), .val (.int p5), .val (.ref b1), .val (.int (2 : Int32))]) rfl d1_53 rfl ?_
        refine o_iload H78 rfl d1_56 rfl ?_
        refine o_bipush H78 (8 : Int32) rfl d1_58 rfl ?_
        refine o_iand H78 d1_60 rfl ?_
        refine o_if_eq H78 d1_61 (pt := 73) (by decide) (by decide) rfl ?_ ?_
        · intro c61_81
          refine o_iload H78 rfl d1_73 rfl ?_
          refine o_if_t H78 d1_75 (by decide) (pt := 82) (by decide) (by decide) ?_
          refine o_iload H78 rfl d1_82 rfl ?_
          refine o_iconst H78 (1 : Int32) rfl d1_84 rfl ?_
          refine o_icmp_t H78 d1_85 (by decide) (pt := 99) (by decide) (by decide) ?_
          refine o_iload H78 rfl d1_99 rfl ?_
          refine o_iconst H78 (2 : Int32) rfl d1_101 rfl ?_
          refine o_icmp_f H78 d1_102 (by decide) rfl ?_
          refine o_iconst H78 (2 : Int32) rfl d1_105 rfl ?_
          refine o_newarr (aty := .int) H78 2 2 (w5 hw) (by decide) (by decide) (by decide) d1_106 rfl (by decide) (by decide) ?_
          intro T82 h82 b82 g82 H82 E82 A82
          have ne82_b1 : b1 ≠ b82 := by rw [g82]; exact Nat.ne_of_lt (f80).lt
          have z82 : n0 ≤ b82 := by rw [g82]; exact H78.le
          have y82 : h0.size ≤ b82 := by rw [g82]; exact k79.1
          have k83 := k79.ext E82
          have f84 := f80.ext E82
          have f85 : oA .int Z h82 b82 [(.int 0), (.int 0)] := A82
          refine o_dup H82 rfl d1_108 rfl ?_
          refine o_iconst H82 (0 : Int32) rfl d1_109 rfl ?_
          refine o_aload H82 rfl rfl d1_110 rfl ?_
          refine o_iconst H82 (0 : Int32) rfl d1_112 rfl ?_
          refine o_iaload H82 0 (.int p2) f84 (by decide) rfl d1_113 rfl ?_
          refine o_iastore H82 0 f85 (by decide) (Nat.le_of_ble_eq_true rfl) z82 d1_114 rfl ?_
          intro T86 h86 H86 W86 A86
          have k87 := k83.wr W86 (Or.inr y82)
          have f88 := f84.other W86 ne82_b1
          have f89 : oA .int Z h86 b82 [(.int p2), (.int 0)] := A86
          refine o_dup H86 rfl d1_115 rfl ?_
          refine o_iconst H86 (1 : Int32) rfl d1_116 rfl ?_
          refine o_aload H86 rfl rfl d1_117 rfl ?_
          refine o_iconst H86 (1 : Int32) rfl d1_119 rfl ?_
          refine o_iaload H86 1 (.int p3) f88 (by decide) rfl d1_120 rfl ?_
          refine o_iastore H86 1 f89 (by decide) (Nat.le_of_ble_eq_true rfl) z82 d1_121 rfl ?_
          intro T90 h90 H90 W90 A90
          have k91 := k87.wr W90 (Or.inr y82)
          have f92 := f88.other W90 ne82_b1
          have f93 : oA .int Z h90 b82 [(.int p2), (.int p3)] := A90
          exact o_areturn H90 rfl rfl rfl rfl d1_122 (by decide) (by decide) ⟨_, rfl, k91, y82, (by simpa [own_pick, own_bit, c12_4, c28_5, c44_53, c61_81] using f93)⟩
        · intro c61_81
          refine o_aload H78 rfl rfl d1_64 rfl ?_
          refine o_iload H78 rfl d1_66 rfl ?_
          refine o_iloadN H78 rfl d1_68 rfl ?_
          refine o_iastore H78 2 f80 (by decide) (Nat.le_of_ble_eq_true rfl) z1 d1_69 rfl ?_
          intro T94 h94 H94 W94 A94
          have k95 := k79.wr W94 (Or.inr y1)
          have f96 : oA .int Z h94 b1 [(.int p2), (.int p3), (.int p4), (.int 0)] := A94
          refine o_iinc H94 (1 : Int32) (3 : Int32) rfl (by decide) rfl (L' := #[.val (.int p1), .val (.int p2), .val (.int p3), .val (.int p4), .val (.int p5), .val (.ref b1), .val (.int (3 : Int32))]) rfl d1_70 rfl ?_
          refine o_iload H94 rfl d1_73 rfl ?_
          refine o_if_t H94 d1_75 (by decide) (pt := 82) (by decide) (by decide) ?_
          refine o_iload H94 rfl d1_82 rfl ?_
          refine o_iconst H94 (1 : Int32) rfl d1_84 rfl ?_
          refine o_icmp_t H94 d1_85 (by decide) (pt := 99) (by decide) (by decide) ?_
          refine o_iload H94 rfl d1_99 rfl ?_
          refine o_iconst H94 (2 : Int32) rfl d1_101 rfl ?_
          refine o_icmp_t H94 d1_102 (by decide) (pt := 123) (by decide) (by decide) ?_
          refine o_iload H94 rfl d1_123 rfl ?_
          refine o_iconst H94 (3 : Int32) rfl d1_125 rfl ?_
          refine o_icmp_f H94 d1_126 (by decide) rfl ?_
          refine o_iconst H94 (3 : Int32) rfl d1_129 rfl ?_
          refine o_newarr (aty := .int) H94 3 3 (w5 hw) (by decide) (by decide) (by decide) d1_130 rfl (by decide) (by decide) ?_
          intro T97 h97 b97 g97 H97 E97 A97
          have ne97_b1 : b1 ≠ b97 := by rw [g97]; exact Nat.ne_of_lt (f96).lt
          have z97 : n0 ≤ b97 := by rw [g97]; exact H94.le
          have y97 : h0.size ≤ b97 := by rw [g97]; exact k95.1
          have k98 := k95.ext E97
          have f99 := f96.ext E97
          have f100 : oA .int Z h97 b97 [(.int 0), (.int 0), (.int 0)] := A97
          refine o_dup H97 rfl d1_132 rfl ?_
          refine o_iconst H97 (0 : Int32) rfl d1_133 rfl ?_
          refine o_aload H97 rfl rfl d1_134 rfl ?_
          refine o_iconst H97 (0 : Int32) rfl d1_136 rfl ?_
          refine o_iaload H97 0 (.int p2) f99 (by decide) rfl d1_137 rfl ?_
          refine o_iastore H97 0 f100 (by decide) (Nat.le_of_ble_eq_true rfl) z97 d1_138 rfl ?_
          intro T101 h101 H101 W101 A101
          have k102 := k98.wr W101 (Or.inr y97)
          have f103 := f99.other W101 ne97_b1
          have f104 : oA .int Z h101 b97 [(.int p2), (.int 0), (.int 0)] := A101
          refine o_dup H101 rfl d1_139 rfl ?_
          refine o_iconst H101 (1 : Int32) rfl d1_140 rfl ?_
          refine o_aload H101 rfl rfl d1_141 rfl ?_
          refine o_iconst H101 (1 : Int32) rfl d1_143 rfl ?_
          refine o_iaload H101 1 (.int p3) f103 (by decide) rfl d1_144 rfl ?_
          refine o_iastore H101 1 f104 (by decide) (Nat.le_of_ble_eq_true rfl) z97 d1_145 rfl ?_
          intro T105 h105 H105 W105 A105
          have k106 := k102.wr W105 (Or.inr y97)
          have f107 := f103.other W105 ne97_b1
          have f108 : oA .int Z h105 b97 [(.int p2), (.int p3), (.int 0)] := A105
          refine o_dup H105 rfl d1_146 rfl ?_
          refine o_iconst H105 (2 : Int32) rfl d1_147 rfl ?_
          refine o_aload H105 rfl rfl d1_148 rfl ?_
          refine o_iconst H105 (2 : Int32) rfl d1_150 rfl ?_
          refine o_iaload H105 2 (.int p4) f107 (by decide) rfl d1_151 rfl ?_
          refine o_iastore H105 2 f108 (by decide) (Nat.le_of_ble_eq_true rfl) z97 d1_152 rfl ?_
          intro T109 h109 H109 W109 A109
          have k110 := k106.wr W109 (Or.inr y97)
          have f111 := f107.other W109 ne97_b1
          have f112 : oA .int Z h109 b97 [(.int p2), (.int p3), (.int p4)] := A109
          exact o_areturn H109 rfl rfl rfl rfl d1_153 (by decide) (by decide) ⟨_, rfl, k110, y97, (by simpa [own_pick, own_bit, c12_4, c28_5, c44_53, c61_81] using f112)⟩
  · intro c12_4
    refine o_aload H1 rfl rfl d1_15 rfl ?_
    refine o_iload H1 rfl d1_17 rfl ?_
    refine o_iloadN H1 rfl d1_19 rfl ?_
    refine o_iastore H1 0 f3 (by decide) (Nat.le_of_ble_eq_true rfl) z1 d1_20 rfl ?_
    intro T113 h113 H113 W113 A113
    have k114 := k2.wr W113 (Or.inr y1)
    have f115 : oA .int Z h113 b1 [(.int p1), (.int 0), (.int 0), (.int 0)] := A113
    refine o_iinc H113 (1 : Int32) (1 : Int32) rfl (by decide) rfl (L' := #[.val (.int p1), .val (.int p2), .val (.int p3), .val (.int p4), .val (.int p5), .val (.ref b1), .val (.int (1 : Int32))]) rfl d1_21 rfl ?_
    refine o_iload H113 rfl d1_24 rfl ?_
    refine o_iconst H113 (2 : Int32) rfl d1_26 rfl ?_
    refine o_iand H113 d1_27 rfl ?_
    refine o_if_eq H113 d1_28 (pt := 40) (by decide) (by decide) rfl ?_ ?_
    · intro c28_116
      refine o_iload H113 rfl d1_40 rfl ?_
      refine o_iconst H113 (4 : Int32) rfl d1_42 rfl ?_
      refine o_iand H113 d1_43 rfl ?_
      refine o_if_eq H113 d1_44 (pt := 56) (by decide) (by decide) rfl ?_ ?_
      · intro c44_117
        refine o_iload H113 rfl d1_56 rfl ?_
        refine o_bipush H113 (8 : Int32) rfl d1_58 rfl ?_
        refine o_iand H113 d1_60 rfl ?_
        refine o_if_eq H113 d1_61 (pt := 73) (by decide) (by decide) rfl ?_ ?_
        · intro c61_118
          refine o_iload H113 rfl d1_73 rfl ?_
          refine o_if_t H113 d1_75 (by decide) (pt := 82) (by decide) (by decide) ?_
          refine o_iload H113 rfl d1_82 rfl ?_
          refine o_iconst H113 (1 : Int32) rfl d1_84 rfl ?_
          refine o_icmp_f H113 d1_85 (by decide) rfl ?_
          refine o_iconst H113 (1 : Int32) rfl d1_88 rfl ?_
          refine o_newarr (aty := .int) H113 1 1 (w5 hw) (by decide) (by decide) (by decide) d1_89 rfl (by decide) (by decide) ?_
          intro T119 h119 b119 g119 H119 E119 A119
          have ne119_b1 : b1 ≠ b119 := by rw [g119]; exact Nat.ne_of_lt (f115).lt
          have z119 : n0 ≤ b119 := by rw [g119]; exact H113.le
          have y119 : h0.size ≤ b119 := by rw [g119]; exact k114.1
          have k120 := k114.ext E119
          have f121 := f115.ext E119
          have f122 : oA .int Z h119 b119 [(.int 0)] := A119
          refine o_dup H119 rfl d1_91 rfl ?_
          refine o_iconst H119 (0 : Int32) rfl d1_92 rfl ?_
          refine o_aload H119 rfl rfl d1_93 rfl ?_
          refine o_iconst H119 (0 : Int32) rfl d1_95 rfl ?_
          refine o_iaload H119 0 (.int p1) f121 (by decide) rfl d1_96 rfl ?_
          refine o_iastore H119 0 f122 (by decide) (Nat.le_of_ble_eq_true rfl) z119 d1_97 rfl ?_
          intro T123 h123 H123 W123 A123
          have k124 := k120.wr W123 (Or.inr y119)
          have f125 := f121.other W123 ne119_b1
          have f126 : oA .int Z h123 b119 [(.int p1)] := A123
          exact o_areturn H123 rfl rfl rfl rfl d1_98 (by decide) (by decide) ⟨_, rfl, k124, y119, (by simpa [own_pick, own_bit, c12_4, c28_116, c44_117, c61_118] using f126)⟩
        · intro c61_118
          refine o_aload H113 rfl rfl d1_64 rfl ?_
          refine o_iload H113 rfl d1_66 rfl ?_
          refine o_iloadN H113 rfl d1_68 rfl ?_
          refine o_iastore H113 1 f115 (by decide) (Nat.le_of_ble_eq_true rfl) z1 d1_69 rfl ?_
          intro T127 h127 H127 W127 A127
          have k128 := k114.wr W127 (Or.inr y1)
          have f129 : oA .int Z h127 b1 [(.int p1), (.int p4), (.int 0), (.int 0)] := A127
          refine o_iinc H127 (1 : Int32) (2 : Int32) rfl (by decide) rfl (L' := #[.val (.int p1), .val (.int p2), .val (.int p3), .val (.int p4), .val (.int p5), .val (.ref b1), .val (.int (2 : Int32))]) rfl d1_70 rfl ?_
          refine o_iload H127 rfl d1_73 rfl ?_
          refine o_if_t H127 d1_75 (by decide) (pt := 82) (by decide) (by decide) ?_
          refine o_iload H127 rfl d1_82 rfl ?_
          refine o_iconst H127 (1 : Int32) rfl d1_84 rfl ?_
          refine o_icmp_t H127 d1_85 (by decide) (pt := 99) (by decide) (by decide) ?_
          refine o_iload H127 rfl d1_99 rfl ?_
          refine o_iconst H127 (2 : Int32) rfl d1_101 rfl ?_
          refine o_icmp_f H127 d1_102 (by decide) rfl ?_
          refine o_iconst H127 (2 : Int32) rfl d1_105 rfl ?_
          refine o_newarr (aty := .int) H127 2 2 (w5 hw) (by decide) (by decide) (by decide) d1_106 rfl (by decide) (by decide) ?_
          intro T130 h130 b130 g130 H130 E130 A130
          have ne130_b1 : b1 ≠ b130 := by rw [g130]; exact Nat.ne_of_lt (f129).lt
          have z130 : n0 ≤ b130 := by rw [g130]; exact H127.le
          have y130 : h0.size ≤ b130 := by rw [g130]; exact k128.1
          have k131 := k128.ext E130
          have f132 := f129.ext E130
          have f133 : oA .int Z h130 b130 [(.int 0), (.int 0)] := A130
          refine o_dup H130 rfl d1_108 rfl ?_
          refine o_iconst H130 (0 : Int32) rfl d1_109 rfl ?_
          refine o_aload H130 rfl rfl d1_110 rfl ?_
          refine o_iconst H130 (0 : Int32) rfl d1_112 rfl ?_
          refine o_iaload H130 0 (.int p1) f132 (by decide) rfl d1_113 rfl ?_
          refine o_iastore H130 0 f133 (by decide) (Nat.le_of_ble_eq_true rfl) z130 d1_114 rfl ?_
          intro T134 h134 H134 W134 A134
          have k135 := k131.wr W134 (Or.inr y130)
          have f136 := f132.other W134 ne130_b1
          have f137 : oA .int Z h134 b130 [(.int p1), (.int 0)] := A134
          refine o_dup H134 rfl d1_115 rfl ?_
          refine o_iconst H134 (1 : Int32) rfl d1_116 rfl ?_
          refine o_aload H134 rfl rfl d1_117 rfl ?_
          refine o_iconst H134 (1 : Int32) rfl d1_119 rfl ?_
          refine o_iaload H134 1 (.int p4) f136 (by decide) rfl d1_120 rfl ?_
          refine o_iastore H134 1 f137 (by decide) (Nat.le_of_ble_eq_true rfl) z130 d1_121 rfl ?_
          intro T138 h138 H138 W138 A138
          have k139 := k135.wr W138 (Or.inr y130)
          have f140 := f136.other W138 ne130_b1
          have f141 : oA .int Z h138 b130 [(.int p1), (.int p4)] := A138
          exact o_areturn H138 rfl rfl rfl rfl d1_122 (by decide) (by decide) ⟨_, rfl, k139, y130, (by simpa [own_pick, own_bit, c12_4, c28_116, c44_117, c61_118] using f141)⟩
      · intro c44_117
        refine o_aload H113 rfl rfl d1_47 rfl ?_
        refine o_iload H113 rfl d1_49 rfl ?_
        refine o_iloadN H113 rfl d1_51 rfl ?_
        refine o_iastore H113 1 f115 (by decide) (Nat.le_of_ble_eq_true rfl) z1 d1_52 rfl ?_
        intro T142 h142 H142 W142 A142
        have k143 := k114.wr W142 (Or.inr y1)
        have f144 : oA .int Z h142 b1 [(.int p1), (.int p3), (.int 0), (.int 0)] := A142
        refine o_iinc H142 (1 : Int32) (2 : Int32) rfl (by decide) rfl (L' := #[.val (.int p1), .val (.int p2), .val (.int p3), .val (.int p4), .val (.int p5), .val (.ref b1), .val (.int (2 : Int32))]) rfl d1_53 rfl ?_
        refine o_iload H142 rfl d1_56 rfl ?_
        refine o_bipush H142 (8 : Int32) rfl d1_58 rfl ?_
        refine o_iand H142 d1_60 rfl ?_
        refine o_if_eq H142 d1_61 (pt := 73) (by decide) (by decide) rfl ?_ ?_
        · intro c61_145
          refine o_iload H142 rfl d1_73 rfl ?_
          refine o_if_t H142 d1_75 (by decide) (pt := 82) (by decide) (by decide) ?_
          refine o_iload H142 rfl d1_82 rfl ?_
          refine o_iconst H142 (1 : Int32) rfl d1_84 rfl ?_
          refine o_icmp_t H142 d1_85 (by decide) (pt := 99) (by decide) (by decide) ?_
          refine o_iload H142 rfl d1_99 rfl ?_
          refine o_iconst H142 (2 : Int32) rfl d1_101 rfl ?_
          refine o_icmp_f H142 d1_102 (by decide) rfl ?_
          refine o_iconst H142 (2 : Int32) rfl d1_105 rfl ?_
          refine o_newarr (aty := .int) H142 2 2 (w5 hw) (by decide) (by decide) (by decide) d1_106 rfl (by decide) (by decide) ?_
          intro T146 h146 b146 g146 H146 E146 A146
          have ne146_b1 : b1 ≠ b146 := by rw [g146]; exact Nat.ne_of_lt (f144).lt
          have z146 : n0 ≤ b146 := by rw [g146]; exact H142.le
          have y146 : h0.size ≤ b146 := by rw [g146]; exact k143.1
          have k147 := k143.ext E146
          have f148 := f144.ext E146
          have f149 : oA .int Z h146 b146 [(.int 0), (.int 0)] := A146
          refine o_dup H146 rfl d1_108 rfl ?_
          refine o_iconst H146 (0 : Int32) rfl d1_109 rfl ?_
          refine o_aload H146 rfl rfl d1_110 rfl ?_
          refine o_iconst H146 (0 : Int32) rfl d1_112 rfl ?_
          refine o_iaload H146 0 (.int p1) f148 (by decide) rfl d1_113 rfl ?_
          refine o_iastore H146 0 f149 (by decide) (Nat.le_of_ble_eq_true rfl) z146 d1_114 rfl ?_
          intro T150 h150 H150 W150 A150
          have k151 := k147.wr W150 (Or.inr y146)
          have f152 := f148.other W150 ne146_b1
          have f153 : oA .int Z h150 b146 [(.int p1), (.int 0)] := A150
          refine o_dup H150 rfl d1_115 rfl ?_
          refine o_iconst H150 (1 : Int32) rfl d1_116 rfl ?_
          refine o_aload H150 rfl rfl d1_117 rfl ?_
          refine o_iconst H150 (1 : Int32) rfl d1_119 rfl ?_
          refine o_iaload H150 1 (.int p3) f152 (by decide) rfl d1_120 rfl ?_
          refine o_iastore H150 1 f153 (by decide) (Nat.le_of_ble_eq_true rfl) z146 d1_121 rfl ?_
          intro T154 h154 H154 W154 A154
          have k155 := k151.wr W154 (Or.inr y146)
          have f156 := f152.other W154 ne146_b1
          have f157 : oA .int Z h154 b146 [(.int p1), (.int p3)] := A154
          exact o_areturn H154 rfl rfl rfl rfl d1_122 (by decide) (by decide) ⟨_, rfl, k155, y146, (by simpa [own_pick, own_bit, c12_4, c28_116, c44_117, c61_145] using f157)⟩
        · intro c61_145
          refine o_aload H142 rfl rfl d1_64 rfl ?_
          refine o_iload H142 rfl d1_66 rfl ?_
          refine o_iloadN H142 rfl d1_68 rfl ?_
          refine o_iastore H142 2 f144 (by decide) (Nat.le_of_ble_eq_true rfl) z1 d1_69 rfl ?_
          intro T158 h158 H158 W158 A158
          have k159 := k143.wr W158 (Or.inr y1)
          have f160 : oA .int Z h158 b1 [(.int p1), (.int p3), (.int p4), (.int 0)] := A158
          refine o_iinc H158 (1 : Int32) (3 : Int32) rfl (by decide) rfl (L' := #[.val (.int p1), .val (.int p2), .val (.int p3), .val (.int p4), .val (.int p5), .val (.ref b1), .val (.int (3 : Int32))]) rfl d1_70 rfl ?_
          refine o_iload H158 rfl d1_73 rfl ?_
          refine o_if_t H158 d1_75 (by decide) (pt := 82) (by decide) (by decide) ?_
          refine o_iload H158 rfl d1_82 rfl ?_
          refine o_iconst H158 (1 : Int32) rfl d1_84 rfl ?_
          refine o_icmp_t H158 d1_85 (by decide) (pt := 99) (by decide) (by decide) ?_
          refine o_iload H158 rfl d1_99 rfl ?_
          refine o_iconst H158 (2 : Int32) rfl d1_101 rfl ?_
          refine o_icmp_t H158 d1_102 (by decide) (pt := 123) (by decide) (by decide) ?_
          refine o_iload H158 rfl d1_123 rfl ?_
          refine o_iconst H158 (3 : Int32) rfl d1_125 rfl ?_
          refine o_icmp_f H158 d1_126 (by decide) rfl ?_
          refine o_iconst H158 (3 : Int32) rfl d1_129 rfl ?_
          refine o_newarr (aty := .int) H158 3 3 (w5 hw) (by decide) (by decide) (by decide) d1_130 rfl (by decide) (by decide) ?_
          intro T161 h161 b161 g161 H161 E161 A161
          have ne161_b1 : b1 ≠ b161 := by rw [g161]; exact Nat.ne_of_lt (f160).lt
          have z161 : n0 ≤ b161 := by rw [g161]; exact H158.le
          have y161 : h0.size ≤ b161 := by rw [g161]; exact k159.1
          have k162 := k159.ext E161
          have f163 := f160.ext E161
          have f164 : oA .int Z h161 b161 [(.int 0), (.int 0), (.int 0)] := A161
          refine o_dup H161 rfl d1_132 rfl ?_
          refine o_iconst H161 (0 : Int32) rfl d1_133 rfl ?_
          refine o_aload H161 rfl rfl d1_134 rfl ?_
          refine o_iconst H161 (0 : Int32) rfl d1_136 rfl ?_
          refine o_iaload H161 0 (.int p1) f163 (by decide) rfl d1_137 rfl ?_
          refine o_iastore H161 0 f164 (by decide) (Nat.le_of_ble_eq_true rfl) z161 d1_138 rfl ?_
          intro T165 h165 H165 W165 A165
          have k166 := k162.wr W165 (Or.inr y161)
          have f167 := f163.other W165 ne161_b1
          have f168 : oA .int Z h165 b161 [(.int p1), (.int 0), (.int 0)] := A165
          refine o_dup H165 rfl d1_139 rfl ?_
          refine o_iconst H165 (1 : Int32) rfl d1_140 rfl ?_
          refine o_aload H165 rfl rfl d1_141 rfl ?_
          refine o_iconst H165 (1 : Int32) rfl d1_143 rfl ?_
          refine o_iaload H165 1 (.int p3) f167 (by decide) rfl d1_144 rfl ?_
          refine o_iastore H165 1 f168 (by decide) (Nat.le_of_ble_eq_true rfl) z161 d1_145 rfl ?_
          intro T169 h169 H169 W169 A169
          have k170 := k166.wr W169 (Or.inr y161)
          have f171 := f167.other W169 ne161_b1
          have f172 : oA .int Z h169 b161 [(.int p1), (.int p3), (.int 0)] := A169
          refine o_dup H169 rfl d1_146 rfl ?_
          refine o_iconst H169 (2 : Int32) rfl d1_147 rfl ?_
          refine o_aload H169 rfl rfl d1_148 rfl ?_
          refine o_iconst H169 (2 : Int32) rfl d1_150 rfl ?_
          refine o_iaload H169 2 (.int p4) f171 (by decide) rfl d1_151 rfl ?_
          refine o_iastore H169 2 f172 (by decide) (Nat.le_of_ble_eq_true rfl) z161 d1_152 rfl ?_
          intro T173 h173 H173 W173 A173
          have k174 := k170.wr W173 (Or.inr y161)
          have f175 := f171.other W173 ne161_b1
          have f176 : oA .int Z h173 b161 [(.int p1), (.int p3), (.int p4)] := A173
          exact o_areturn H173 rfl rfl rfl rfl d1_153 (by decide) (by decide) ⟨_, rfl, k174, y161, (by simpa [own_pick, own_bit, c12_4, c28_116, c44_117, c61_145] using f176)⟩
    · intro c28_116
      refine o_aload H113 rfl rfl d1_31 rfl ?_
      refine o_iload H113 rfl d1_33 rfl ?_
      refine o_iloadN H113 rfl d1_35 rfl ?_
      refine o_iastore H113 1 f115 (by decide) (Nat.le_of_ble_eq_true rfl) z1 d1_36 rfl ?_
      intro T177 h177 H177 W177 A177
      have k178 := k114.wr W177 (Or.inr y1)
      have f179 : oA .int Z h177 b1 [(.int p1), (.int p2), (.int 0), (.int 0)] := A177
      refine o_iinc H177 (1 : Int32) (2 : Int32) rfl (by decide) rfl (L' := #[.val (.int p1), .val (.int p2), .val (.int p3), .val (.int p4), .val (.int p5), .val (.ref b1), .val (.int (2 : Int32))]) rfl d1_37 rfl ?_
      refine o_iload H177 rfl d1_40 rfl ?_
      refine o_iconst H177 (4 : Int32) rfl d1_42 rfl ?_
      refine o_iand H177 d1_43 rfl ?_
      refine o_if_eq H177 d1_44 (pt := 56) (by decide) (by decide) rfl ?_ ?_
      · intro c44_180
        refine o_iload H177 rfl d1_56 rfl ?_
        refine o_bipush H177 (8 : Int32) rfl d1_58 rfl ?_
        refine o_iand H177 d1_60 rfl ?_
        refine o_if_eq H177 d1_61 (pt := 73) (by decide) (by decide) rfl ?_ ?_
        · intro c61_181
          refine o_iload H177 rfl d1_73 rfl ?_
          refine o_if_t H177 d1_75 (by decide) (pt := 82) (by decide) (by decide) ?_
          refine o_iload H177 rfl d1_82 rfl ?_
          refine o_iconst H177 (1 : Int32) rfl d1_84 rfl ?_
          refine o_icmp_t H177 d1_85 (by decide) (pt := 99) (by decide) (by decide) ?_
          refine o_iload H177 rfl d1_99 rfl ?_
          refine o_iconst H177 (2 : Int32) rfl d1_101 rfl ?_
          refine o_icmp_f H177 d1_102 (by decide) rfl ?_
          refine o_iconst H177 (2 : Int32) rfl d1_105 rfl ?_
          refine o_newarr (aty := .int) H177 2 2 (w5 hw) (by decide) (by decide) (by decide) d1_106 rfl (by decide) (by decide) ?_
          intro T182 h182 b182 g182 H182 E182 A182
          have ne182_b1 : b1 ≠ b182 := by rw [g182]; exact Nat.ne_of_lt (f179).lt
          have z182 : n0 ≤ b182 := by rw [g182]; exact H177.le
          have y182 : h0.size ≤ b182 := by rw [g182]; exact k178.1
          have k183 := k178.ext E182
          have f184 := f179.ext E182
          have f185 : oA .int Z h182 b182 [(.int 0), (.int 0)] := A182
          refine o_dup H182 rfl d1_108 rfl ?_
          refine o_iconst H182 (0 : Int32) rfl d1_109 rfl ?_
          refine o_aload H182 rfl rfl d1_110 rfl ?_
          refine o_iconst H182 (0 : Int32) rfl d1_112 rfl ?_
          refine o_iaload H182 0 (.int p1) f184 (by decide) rfl d1_113 rfl ?_
          refine o_iastore H182 0 f185 (by decide) (Nat.le_of_ble_eq_true rfl) z182 d1_114 rfl ?_
          intro T186 h186 H186 W186 A186
          have k187 := k183.wr W186 (Or.inr y182)
          have f188 := f184.other W186 ne182_b1
          have f189 : oA .int Z h186 b182 [(.int p1), (.int 0)] := A186
          refine o_dup H186 rfl d1_115 rfl ?_
          refine o_iconst H186 (1 : Int32) rfl d1_116 rfl ?_
          refine o_aload H186 rfl rfl d1_117 rfl ?_
          refine o_iconst H186 (1 : Int32) rfl d1_119 rfl ?_
          refine o_iaload H186 1 (.int p2) f188 (by decide) rfl d1_120 rfl ?_
          refine o_iastore H186 1 f189 (by decide) (Nat.le_of_ble_eq_true rfl) z182 d1_121 rfl ?_
          intro T190 h190 H190 W190 A190
          have k191 := k187.wr W190 (Or.inr y182)
          have f192 := f188.other W190 ne182_b1
          have f193 : oA .int Z h190 b182 [(.int p1), (.int p2)] := A190
          exact o_areturn H190 rfl rfl rfl rfl d1_122 (by decide) (by decide) ⟨_, rfl, k191, y182, (by simpa [own_pick, own_bit, c12_4, c28_116, c44_180, c61_181] using f193)⟩
        · intro c61_181
          refine o_aload H177 rfl rfl d1_64 rfl ?_
          refine o_iload H177 rfl d1_66 rfl ?_
          refine o_iloadN H177 rfl d1_68 rfl ?_
          refine o_iastore H177 2 f179 (by decide) (Nat.le_of_ble_eq_true rfl) z1 d1_69 rfl ?_
          intro T194 h194 H194 W194 A194
          have k195 := k178.wr W194 (Or.inr y1)
          have f196 : oA .int Z h194 b1 [(.int p1), (.int p2), (.int p4), (.int 0)] := A194
          refine o_iinc H194 (1 : Int32) (3 : Int32) rfl (by decide) rfl (L' := #[.val (.int p1), .val (.int p2), .val (.int p3), .val (.int p4), .val (.int p5), .val (.ref b1), .val (.int (3 : Int32))]) rfl d1_70 rfl ?_
          refine o_iload H194 rfl d1_73 rfl ?_
          refine o_if_t H194 d1_75 (by decide) (pt := 82) (by decide) (by decide) ?_
          refine o_iload H194 rfl d1_82 rfl ?_
          refine o_iconst H194 (1 : Int32) rfl d1_84 rfl ?_
          refine o_icmp_t H194 d1_85 (by decide) (pt := 99) (by decide) (by decide) ?_
          refine o_iload H194 rfl d1_99 rfl ?_
          refine o_iconst H194 (2 : Int32) rfl d1_101 rfl ?_
          refine o_icmp_t H194 d1_102 (by decide) (pt := 123) (by decide) (by decide) ?_
          refine o_iload H194 rfl d1_123 rfl ?_
          refine o_iconst H194 (3 : Int32) rfl d1_125 rfl ?_
          refine o_icmp_f H194 d1_126 (by decide) rfl ?_
          refine o_iconst H194 (3 : Int32) rfl d1_129 rfl ?_
          refine o_newarr (aty := .int) H194 3 3 (w5 hw) (by decide) (by decide) (by decide) d1_130 rfl (by decide) (by decide) ?_
          intro T197 h197 b197 g197 H197 E197 A197
          have ne197_b1 : b1 ≠ b197 := by rw [g197]; exact Nat.ne_of_lt (f196).lt
          have z197 : n0 ≤ b197 := by rw [g197]; exact H194.le
          have y197 : h0.size ≤ b197 := by rw [g197]; exact k195.1
          have k198 := k195.ext E197
          have f199 := f196.ext E197
          have f200 : oA .int Z h197 b197 [(.int 0), (.int 0), (.int 0)] := A197
          refine o_dup H197 rfl d1_132 rfl ?_
          refine o_iconst H197 (0 : Int32) rfl d1_133 rfl ?_
          refine o_aload H197 rfl rfl d1_134 rfl ?_
          refine o_iconst H197 (0 : Int32) rfl d1_136 rfl ?_
          refine o_iaload H197 0 (.int p1) f199 (by decide) rfl d1_137 rfl ?_
          refine o_iastore H197 0 f200 (by decide) (Nat.le_of_ble_eq_true rfl) z197 d1_138 rfl ?_
          intro T201 h201 H201 W201 A201
          have k202 := k198.wr W201 (Or.inr y197)
          have f203 := f199.other W201 ne197_b1
          have f204 : oA .int Z h201 b197 [(.int p1), (.int 0), (.int 0)] := A201
          refine o_dup H201 rfl d1_139 rfl ?_
          refine o_iconst H201 (1 : Int32) rfl d1_140 rfl ?_
          refine o_aload H201 rfl rfl d1_141 rfl ?_
          refine o_iconst H201 (1 : Int32) rfl d1_143 rfl ?_
          refine o_iaload H201 1 (.int p2) f203 (by decide) rfl d1_144 rfl ?_
          refine o_iastore H201 1 f204 (by decide) (Nat.le_of_ble_eq_true rfl) z197 d1_145 rfl ?_
          intro T205 h205 H205 W205 A205
          have k206 := k202.wr W205 (Or.inr y197)
          have f207 := f203.other W205 ne197_b1
          have f208 : oA .int Z h205 b197 [(.int p1), (.int p2), (.int 0)] := A205
          refine o_dup H205 rfl d1_146 rfl ?_
          refine o_iconst H205 (2 : Int32) rfl d1_147 rfl ?_
          refine o_aload H205 rfl rfl d1_148 rfl ?_
          refine o_iconst H205 (2 : Int32) rfl d1_150 rfl ?_
          refine o_iaload H205 2 (.int p4) f207 (by decide) rfl d1_151 rfl ?_
          refine o_iastore H205 2 f208 (by decide) (Nat.le_of_ble_eq_true rfl) z197 d1_152 rfl ?_
          intro T209 h209 H209 W209 A209
          have k210 := k206.wr W209 (Or.inr y197)
          have f211 := f207.other W209 ne197_b1
          have f212 : oA .int Z h209 b197 [(.int p1), (.int p2), (.int p4)] := A209
          exact o_areturn H209 rfl rfl rfl rfl d1_153 (by decide) (by decide) ⟨_, rfl, k210, y197, (by simpa [own_pick, own_bit, c12_4, c28_116, c44_180, c61_181] using f212)⟩
      · intro c44_180
        refine o_aload H177 rfl rfl d1_47 rfl ?_
        refine o_iload H177 rfl d1_49 rfl ?_
        refine o_iloadN H177 rfl d1_51 rfl ?_
        refine o_iastore H177 2 f179 (by decide) (Nat.le_of_ble_eq_true rfl) z1 d1_52 rfl ?_
        intro T213 h213 H213 W213 A213
        have k214 := k178.wr W213 (Or.inr y1)
        have f215 : oA .int Z h213 b1 [(.int p1), (.int p2), (.int p3), (.int 0)] := A213
        refine o_iinc H213 (1 : Int32) (3 : Int32) rfl (by decide) rfl (L' := #[.val (.int p1), .val (.int p2), .val (.int p3), .val (.int p4), .val (.int p5), .val (.ref b1), .val (.int (3 : Int32))]) rfl d1_53 rfl ?_
        refine o_iload H213 rfl d1_56 rfl ?_
        refine o_bipush H213 (8 : Int32) rfl d1_58 rfl ?_
        refine o_iand H213 d1_60 rfl ?_
        refine o_if_eq H213 d1_61 (pt := 73) (by decide) (by decide) rfl ?_ ?_
        · intro c61_216
          refine o_iload H213 rfl d1_73 rfl ?_
          refine o_if_t H213 d1_75 (by decide) (pt := 82) (by decide) (by decide) ?_
          refine o_iload H213 rfl d1_82 rfl ?_
          refine o_iconst H213 (1 : Int32) rfl d1_84 rfl ?_
          refine o_icmp_t H213 d1_85 (by decide) (pt := 99) (by decide) (by decide) ?_
          refine o_iload H213 rfl d1_99 rfl ?_
          refine o_iconst H213 (2 : Int32) rfl d1_101 rfl ?_
          refine o_icmp_t H213 d1_102 (by decide) (pt := 123) (by decide) (by decide) ?_
          refine o_iload H213 rfl d1_123 rfl ?_
          refine o_iconst H213 (3 : Int32) rfl d1_125 rfl ?_
          refine o_icmp_f H213 d1_126 (by decide) rfl ?_
          refine o_iconst H213 (3 : Int32) rfl d1_129 rfl ?_
          refine o_newarr (aty := .int) H213 3 3 (w5 hw) (by decide) (by decide) (by decide) d1_130 rfl (by decide) (by decide) ?_
          intro T217 h217 b217 g217 H217 E217 A217
          have ne217_b1 : b1 ≠ b217 := by rw [g217]; exact Nat.ne_of_lt (f215).lt
          have z217 : n0 ≤ b217 := by rw [g217]; exact H213.le
          have y217 : h0.size ≤ b217 := by rw [g217]; exact k214.1
          have k218 := k214.ext E217
          have f219 := f215.ext E217
          have f220 : oA .int Z h217 b217 [(.int 0), (.int 0), (.int 0)] := A217
          refine o_dup H217 rfl d1_132 rfl ?_
          refine o_iconst H217 (0 : Int32) rfl d1_133 rfl ?_
          refine o_aload H217 rfl rfl d1_134 rfl ?_
          refine o_iconst H217 (0 : Int32) rfl d1_136 rfl ?_
          refine o_iaload H217 0 (.int p1) f219 (by decide) rfl d1_137 rfl ?_
          refine o_iastore H217 0 f220 (by decide) (Nat.le_of_ble_eq_true rfl) z217 d1_138 rfl ?_
          intro T221 h221 H221 W221 A221
          have k222 := k218.wr W221 (Or.inr y217)
          have f223 := f219.other W221 ne217_b1
          have f224 : oA .int Z h221 b217 [(.int p1), (.int 0), (.int 0)] := A221
          refine o_dup H221 rfl d1_139 rfl ?_
          refine o_iconst H221 (1 : Int32) rfl d1_140 rfl ?_
          refine o_aload H221 rfl rfl d1_141 rfl ?_
          refine o_iconst H221 (1 : Int32) rfl d1_143 rfl ?_
          refine o_iaload H221 1 (.int p2) f223 (by decide) rfl d1_144 rfl ?_
          refine o_iastore H221 1 f224 (by decide) (Nat.le_of_ble_eq_true rfl) z217 d1_145 rfl ?_
          intro T225 h225 H225 W225 A225
          have k226 := k222.wr W225 (Or.inr y217)
          have f227 := f223.other W225 ne217_b1
          have f228 : oA .int Z h225 b217 [(.int p1), (.int p2), (.int 0)] := A225
          refine o_dup H225 rfl d1_146 rfl ?_
          refine o_iconst H225 (2 : Int32) rfl d1_147 rfl ?_
          refine o_aload H225 rfl rfl d1_148 rfl ?_
          refine o_iconst H225 (2 : Int32) rfl d1_150 rfl ?_
          refine o_iaload H225 2 (.int p3) f227 (by decide) rfl d1_151 rfl ?_
          refine o_iastore H225 2 f228 (by decide) (Nat.le_of_ble_eq_true rfl) z217 d1_152 rfl ?_
          intro T229 h229 H229 W229 A229
          have k230 := k226.wr W229 (Or.inr y217)
          have f231 := f227.other W229 ne217_b1
          have f232 : oA .int Z h229 b217 [(.int p1), (.int p2), (.int p3)] := A229
          exact o_areturn H229 rfl rfl rfl rfl d1_153 (by decide) (by decide) ⟨_, rfl, k230, y217, (by simpa [own_pick, own_bit, c12_4, c28_116, c44_180, c61_216] using f232)⟩
        · intro c61_216
          refine o_aload H213 rfl rfl d1_64 rfl ?_
          refine o_iload H213 rfl d1_66 rfl ?_
          refine o_iloadN H213 rfl d1_68 rfl ?_
          refine o_iastore H213 3 f215 (by decide) (Nat.le_of_ble_eq_true rfl) z1 d1_69 rfl ?_
          intro T233 h233 H233 W233 A233
          have k234 := k214.wr W233 (Or.inr y1)
          have f235 : oA .int Z h233 b1 [(.int p1), (.int p2), (.int p3), (.int p4)] := A233
          refine o_iinc H233 (1 : Int32) (4 : Int32) rfl (by decide) rfl (L' := #[.val (.int p1), .val (.int p2), .val (.int p3), .val (.int p4), .val (.int p5), .val (.ref b1), .val (.int (4 : Int32))]) rfl d1_70 rfl ?_
          refine o_iload H233 rfl d1_73 rfl ?_
          refine o_if_t H233 d1_75 (by decide) (pt := 82) (by decide) (by decide) ?_
          refine o_iload H233 rfl d1_82 rfl ?_
          refine o_iconst H233 (1 : Int32) rfl d1_84 rfl ?_
          refine o_icmp_t H233 d1_85 (by decide) (pt := 99) (by decide) (by decide) ?_
          refine o_iload H233 rfl d1_99 rfl ?_
          refine o_iconst H233 (2 : Int32) rfl d1_101 rfl ?_
          refine o_icmp_t H233 d1_102 (by decide) (pt := 123) (by decide) (by decide) ?_
          refine o_iload H233 rfl d1_123 rfl ?_
          refine o_iconst H233 (3 : Int32) rfl d1_125 rfl ?_
          refine o_icmp_t H233 d1_126 (by decide) (pt := 154) (by decide) (by decide) ?_
          refine o_iconst H233 (4 : Int32) rfl d1_154 rfl ?_
          refine o_newarr (aty := .int) H233 4 4 (w5 hw) (by decide) (by decide) (by decide) d1_155 rfl (by decide) (by decide) ?_
          intro T236 h236 b236 g236 H236 E236 A236
          have ne236_b1 : b1 ≠ b236 := by rw [g236]; exact Nat.ne_of_lt (f235).lt
          have z236 : n0 ≤ b236 := by rw [g236]; exact H233.le
          have y236 : h0.size ≤ b236 := by rw [g236]; exact k234.1
          have k237 := k234.ext E236
          have f238 := f235.ext E236
          have f239 : oA .int Z h236 b236 [(.int 0), (.int 0), (.int 0), (.int 0)] := A236
          refine o_dup H236 rfl d1_157 rfl ?_
          refine o_iconst H236 (0 : Int32) rfl d1_158 rfl ?_
          refine o_aload H236 rfl rfl d1_159 rfl ?_
          refine o_iconst H236 (0 : Int32) rfl d1_161 rfl ?_
          refine o_iaload H236 0 (.int p1) f238 (by decide) rfl d1_162 rfl ?_
          refine o_iastore H236 0 f239 (by decide) (Nat.le_of_ble_eq_true rfl) z236 d1_163 rfl ?_
          intro T240 h240 H240 W240 A240
          have k241 := k237.wr W240 (Or.inr y236)
          have f242 := f238.other W240 ne236_b1
          have f243 : oA .int Z h240 b236 [(.int p1), (.int 0), (.int 0), (.int 0)] := A240
          refine o_dup H240 rfl d1_164 rfl ?_
          refine o_iconst H240 (1 : Int32) rfl d1_165 rfl ?_
          refine o_aload H240 rfl rfl d1_166 rfl ?_
          refine o_iconst H240 (1 : Int32) rfl d1_168 rfl ?_
          refine o_iaload H240 1 (.int p2) f242 (by decide) rfl d1_169 rfl ?_
          refine o_iastore H240 1 f243 (by decide) (Nat.le_of_ble_eq_true rfl) z236 d1_170 rfl ?_
          intro T244 h244 H244 W244 A244
          have k245 := k241.wr W244 (Or.inr y236)
          have f246 := f242.other W244 ne236_b1
          have f247 : oA .int Z h244 b236 [(.int p1), (.int p2), (.int 0), (.int 0)] := A244
          refine o_dup H244 rfl d1_171 rfl ?_
          refine o_iconst H244 (2 : Int32) rfl d1_172 rfl ?_
          refine o_aload H244 rfl rfl d1_173 rfl ?_
          refine o_iconst H244 (2 : Int32) rfl d1_175 rfl ?_
          refine o_iaload H244 2 (.int p3) f246 (by decide) rfl d1_176 rfl ?_
          refine o_iastore H244 2 f247 (by decide) (Nat.le_of_ble_eq_true rfl) z236 d1_177 rfl ?_
          intro T248 h248 H248 W248 A248
          have k249 := k245.wr W248 (Or.inr y236)
          have f250 := f246.other W248 ne236_b1
          have f251 : oA .int Z h248 b236 [(.int p1), (.int p2), (.int p3), (.int 0)] := A248
          refine o_dup H248 rfl d1_178 rfl ?_
          refine o_iconst H248 (3 : Int32) rfl d1_179 rfl ?_
          refine o_aload H248 rfl rfl d1_180 rfl ?_
          refine o_iconst H248 (3 : Int32) rfl d1_182 rfl ?_
          refine o_iaload H248 3 (.int p4) f250 (by decide) rfl d1_183 rfl ?_
          refine o_iastore H248 3 f251 (by decide) (Nat.le_of_ble_eq_true rfl) z236 d1_184 rfl ?_
          intro T252 h252 H252 W252 A252
          have k253 := k249.wr W252 (Or.inr y236)
          have f254 := f250.other W252 ne236_b1
          have f255 : oA .int Z h252 b236 [(.int p1), (.int p2), (.int p3), (.int p4)] := A252
          exact o_areturn H252 rfl rfl rfl rfl d1_185 (by decide) (by decide) ⟨_, rfl, k253, y236, (by simpa [own_pick, own_bit, c12_4, c28_116, c44_180, c61_216] using f255)⟩
theorem d3_0 : decode method_4_code 0 = .ok (.aload_n 0, 1) := by decide +kernel
theorem d3_1 : decode method_4_code 1 = .ok (.ifnull 10, 3) := by decide +kernel
theorem d3_4 : decode method_4_code 4 = .ok (.aload_n 0, 1) := by decide +kernel
theorem d3_5 : decode method_4_code 5 = .ok (.arraylength, 1) := by decide +kernel
theorem d3_6 : decode method_4_code 6 = .ok (.aload_n 1, 1) := by decide +kernel
theorem d3_7 : decode method_4_code 7 = .ok (.arraylength, 1) := by decide +kernel
theorem d3_8 : decode method_4_code 8 = .ok (.if_icmp .eq 5, 3) := by decide +kernel
theorem d3_13 : decode method_4_code 13 = .ok (.aload_n 1, 1) := by decide +kernel
theorem d3_14 : decode method_4_code 14 = .ok (.arraylength, 1) := by decide +kernel
theorem d3_15 : decode method_4_code 15 = .ok (.iconst 1, 1) := by decide +kernel
theorem d3_16 : decode method_4_code 16 = .ok (.if_icmp .lt 14, 3) := by decide +kernel
theorem d3_19 : decode method_4_code 19 = .ok (.aload_n 0, 1) := by decide +kernel
theorem d3_20 : decode method_4_code 20 = .ok (.iconst 0, 1) := by decide +kernel
theorem d3_21 : decode method_4_code 21 = .ok (.iaload, 1) := by decide +kernel
theorem d3_22 : decode method_4_code 22 = .ok (.aload_n 1, 1) := by decide +kernel
theorem d3_23 : decode method_4_code 23 = .ok (.iconst 0, 1) := by decide +kernel
theorem d3_24 : decode method_4_code 24 = .ok (.iaload, 1) := by decide +kernel
theorem d3_25 : decode method_4_code 25 = .ok (.if_icmp .eq 5, 3) := by decide +kernel
theorem d3_30 : decode method_4_code 30 = .ok (.aload_n 1, 1) := by decide +kernel
theorem d3_31 : decode method_4_code 31 = .ok (.arraylength, 1) := by decide +kernel
theorem d3_32 : decode method_4_code 32 = .ok (.iconst 2, 1) := by decide +kernel
theorem d3_33 : decode method_4_code 33 = .ok (.if_icmp .lt 14, 3) := by decide +kernel
theorem d3_36 : decode method_4_code 36 = .ok (.aload_n 0, 1) := by decide +kernel
theorem d3_37 : decode method_4_code 37 = .ok (.iconst 1, 1) := by decide +kernel
theorem d3_38 : decode method_4_code 38 = .ok (.iaload, 1) := by decide +kernel
theorem d3_39 : decode method_4_code 39 = .ok (.aload_n 1, 1) := by decide +kernel
theorem d3_40 : decode method_4_code 40 = .ok (.iconst 1, 1) := by decide +kernel
theorem d3_41 : decode method_4_code 41 = .ok (.iaload, 1) := by decide +kernel
theorem d3_42 : decode method_4_code 42 = .ok (.if_icmp .eq 5, 3) := by decide +kernel
theorem d3_47 : decode method_4_code 47 = .ok (.aload_n 1, 1) := by decide +kernel
theorem d3_48 : decode method_4_code 48 = .ok (.arraylength, 1) := by decide +kernel
theorem d3_49 : decode method_4_code 49 = .ok (.iconst 3, 1) := by decide +kernel
theorem d3_50 : decode method_4_code 50 = .ok (.if_icmp .lt 14, 3) := by decide +kernel
theorem d3_53 : decode method_4_code 53 = .ok (.aload_n 0, 1) := by decide +kernel
theorem d3_54 : decode method_4_code 54 = .ok (.iconst 2, 1) := by decide +kernel
theorem d3_55 : decode method_4_code 55 = .ok (.iaload, 1) := by decide +kernel
theorem d3_56 : decode method_4_code 56 = .ok (.aload_n 1, 1) := by decide +kernel
theorem d3_57 : decode method_4_code 57 = .ok (.iconst 2, 1) := by decide +kernel
theorem d3_58 : decode method_4_code 58 = .ok (.iaload, 1) := by decide +kernel
theorem d3_59 : decode method_4_code 59 = .ok (.if_icmp .eq 5, 3) := by decide +kernel
theorem d3_64 : decode method_4_code 64 = .ok (.aload_n 1, 1) := by decide +kernel
theorem d3_65 : decode method_4_code 65 = .ok (.arraylength, 1) := by decide +kernel
theorem d3_66 : decode method_4_code 66 = .ok (.iconst 4, 1) := by decide +kernel
theorem d3_67 : decode method_4_code 67 = .ok (.if_icmp .lt 14, 3) := by decide +kernel
theorem d3_70 : decode method_4_code 70 = .ok (.aload_n 0, 1) := by decide +kernel
theorem d3_71 : decode method_4_code 71 = .ok (.iconst 3, 1) := by decide +kernel
theorem d3_72 : decode method_4_code 72 = .ok (.iaload, 1) := by decide +kernel
theorem d3_73 : decode method_4_code 73 = .ok (.aload_n 1, 1) := by decide +kernel
theorem d3_74 : decode method_4_code 74 = .ok (.iconst 3, 1) := by decide +kernel
theorem d3_75 : decode method_4_code 75 = .ok (.iaload, 1) := by decide +kernel
theorem d3_76 : decode method_4_code 76 = .ok (.if_icmp .eq 5, 3) := by decide +kernel
theorem d3_81 : decode method_4_code 81 = .ok (.iconst 1, 1) := by decide +kernel
theorem d3_82 : decode method_4_code 82 = .ok (.ireturn, 1) := by decide +kernel
theorem pn3 : plainFor (⟨"com/example/following_sibling/followingsibling/IndexesWithoutPinLaw", "same", "([I[I)Z"⟩ : MethodName) = true := plainFor_of_name (by first | (simp [plainName, overriddenIn]; done) | decide +kernel)
theorem pd3 : parseMethodDescriptor "([I[I)Z" = some ⟨[(.array .int), (.array .int)], some .boolean⟩ := by decide +kernel
set_option maxRecDepth 65536 in
set_option maxHeartbeats 40000000 in
theorem rm3_0 (l : Launch) (Z : State) (a0 : Array Value) (hw : ∀ d ∈ tables_1, d.before a0 Z = true) (a1 : Addr) (a2 : Addr)  (h0 : Heap) (n0 : Nat) (Z0 : n0 ≤ h0.size) (A_a1 : oA .int Z h0 a1 []) (A_a2 : oA .int Z h0 a2 []) :
    oC l Z n0 (⟨"com/example/following_sibling/followingsibling/IndexesWithoutPinLaw", "same", "([I[I)Z"⟩ : MethodName) method_4_code 2 (some .boolean) ({ frames := 0, cells := 0, slots := 0, locals := 0 } : Room) 0 0 #[(.ref a1), (.ref a2)] h0 (fun v h => v = some (.int 1) ∧ h0 = h) := by
  refine oC.of (L := #[.val (.ref a1), .val (.ref a2)]) pn3 Z0 (fun m => by first | (simp [entryFrame, mkF, argsToLocals, Value.category]; done) | rfl) ?_
  intro p e s m below meth c T H
  refine o_aloadN H rfl rfl d3_0 rfl ?_
  refine o_ifnull_f H d3_1 rfl ?_
  refine o_aloadN H rfl rfl d3_4 rfl ?_
  refine o_arraylength H (0 : Int32) A_a1 rfl d3_5 rfl ?_
  refine o_aloadN H rfl rfl d3_6 rfl ?_
  refine o_arraylength H (0 : Int32) A_a2 rfl d3_7 rfl ?_
  refine o_icmp_t H d3_8 (by decide) (pt := 13) (by decide) (by decide) ?_
  refine o_aloadN H rfl rfl d3_13 rfl ?_
  refine o_arraylength H (0 : Int32) A_a2 rfl d3_14 rfl ?_
  refine o_iconst H (1 : Int32) rfl d3_15 rfl ?_
  refine o_icmp_t H d3_16 (by decide) (pt := 30) (by decide) (by decide) ?_
  refine o_aloadN H rfl rfl d3_30 rfl ?_
  refine o_arraylength H (0 : Int32) A_a2 rfl d3_31 rfl ?_
  refine o_iconst H (2 : Int32) rfl d3_32 rfl ?_
  refine o_icmp_t H d3_33 (by decide) (pt := 47) (by decide) (by decide) ?_
  refine o_aloadN H rfl rfl d3_47 rfl ?_
  refine o_arraylength H (0 : Int32) A_a2 rfl d3_48 rfl ?_
  refine o_iconst H (3 : Int32) rfl d3_49 rfl ?_
  refine o_icmp_t H d3_50 (by decide) (pt := 64) (by decide) (by decide) ?_
  refine o_aloadN H rfl rfl d3_64 rfl ?_
  refine o_arraylength H (0 : Int32) A_a2 rfl d3_65 rfl ?_
  refine o_iconst H (4 : Int32) rfl d3_66 rfl ?_
  refine o_icmp_t H d3_67 (by decide) (pt := 81) (by decide) (by decide) ?_
  refine o_iconst H (1 : Int32) rfl d3_81 rfl ?_
  exact o_nreturn H .boolean rfl (by simp) d3_82 (by decide) (by decide) ⟨rfl, rfl⟩
set_option maxRecDepth 65536 in
set_option maxHeartbeats 40000000 in
theorem rm3_1 (l : Launch) (Z : State) (a0 : Array Value) (hw : ∀ d ∈ tables_1, d.before a0 Z = true) (a1 : Addr) (a2 : Addr) (u0 : Int32) (h0 : Heap) (n0 : Nat) (Z0 : n0 ≤ h0.size) (A_a1 : oA .int Z h0 a1 [(.int u0)]) (A_a2 : oA .int Z h0 a2 [(.int u0)]) :
    oC l Z n0 (⟨"com/example/following_sibling/followingsibling/IndexesWithoutPinLaw", "same", "([I[I)Z"⟩ : MethodName) method_4_code 2 (some .boolean) ({ frames := 0, cells := 0, slots := 0, locals := 0 } : Room) 0 0 #[(.ref a1), (.ref a2)] h0 (fun v h => v = some (.int 1) ∧ h0 = h) := by
  refine oC.of (L := #[.val (.ref a1), .val (.ref a2)]) pn3 Z0 (fun m => by first | (simp [entryFrame, mkF, argsToLocals, Value.category]; done) | rfl) ?_
  intro p e s m below meth c T H
  refine o_aloadN H rfl rfl d3_0 rfl ?_
  refine o_ifnull_f H d3_1 rfl ?_
  refine o_aloadN H rfl rfl d3_4 rfl ?_
  refine o_arraylength H (1 : Int32) A_a1 rfl d3_5 rfl ?_
  refine o_aloadN H rfl rfl d3_6 rfl ?_
  refine o_arraylength H (1 : Int32) A_a2 rfl d3_7 rfl ?_
  refine o_icmp_t H d3_8 (by decide) (pt := 13) (by decide) (by decide) ?_
  refine o_aloadN H rfl rfl d3_13 rfl ?_
  refine o_arraylength H (1 : Int32) A_a2 rfl d3_14 rfl ?_
  refine o_iconst H (1 : Int32) rfl d3_15 rfl ?_
  refine o_icmp_f H d3_16 (by decide) rfl ?_
  refine o_aloadN H rfl rfl d3_19 rfl ?_
  refine o_iconst H (0 : Int32) rfl d3_20 rfl ?_
  refine o_iaload H 0 (.int u0) A_a1 (by decide) rfl d3_21 rfl ?_
  refine o_aloadN H rfl rfl d3_22 rfl ?_
  refine o_iconst H (0 : Int32) rfl d3_23 rfl ?_
  refine o_iaload H 0 (.int u0) A_a2 (by decide) rfl d3_24 rfl ?_
  refine o_icmp_t H d3_25 (XT.ii_eq_t rfl) (pt := 30) (by decide) (by decide) ?_
  refine o_aloadN H rfl rfl d3_30 rfl ?_
  refine o_arraylength H (1 : Int32) A_a2 rfl d3_31 rfl ?_
  refine o_iconst H (2 : Int32) rfl d3_32 rfl ?_
  refine o_icmp_t H d3_33 (by decide) (pt := 47) (by decide) (by decide) ?_
  refine o_aloadN H rfl rfl d3_47 rfl ?_
  refine o_arraylength H (1 : Int32) A_a2 rfl d3_48 rfl ?_
  refine o_iconst H (3 : Int32) rfl d3_49 rfl ?_
  refine o_icmp_t H d3_50 (by decide) (pt := 64) (by decide) (by decide) ?_
  refine o_aloadN H rfl rfl d3_64 rfl ?_
  refine o_arraylength H (1 : Int32) A_a2 rfl d3_65 rfl ?_
  refine o_iconst H (4 : Int32) rfl d3_66 rfl ?_
  refine o_icmp_t H d3_67 (by decide) (pt := 81) (by decide) (by decide) ?_
  refine o_iconst H (1 : Int32) rfl d3_81 rfl ?_
  exact o_nreturn H .boolean rfl (by simp) d3_82 (by decide) (by decide) ⟨rfl, rfl⟩
set_option maxRecDepth 65536 in
set_option maxHeartbeats 40000000 in
theorem rm3_2 (l : Launch) (Z : State) (a0 : Array Value) (hw : ∀ d ∈ tables_1, d.before a0 Z = true) (a1 : Addr) (a2 : Addr) (u0 : Int32) (u1 : Int32) (h0 : Heap) (n0 : Nat) (Z0 : n0 ≤ h0.size) (A_a1 : oA .int Z h0 a1 [(.int u0), (.int u1)]) (A_a2 : oA .int Z h0 a2 [(.int u0), (.int u1)]) :
    oC l Z n0 (⟨"com/example/following_sibling/followingsibling/IndexesWithoutPinLaw", "same", "([I[I)Z"⟩ : MethodName) method_4_code 2 (some .boolean) ({ frames := 0, cells := 0, slots := 0, locals := 0 } : Room) 0 0 #[(.ref a1), (.ref a2)] h0 (fun v h => v = some (.int 1) ∧ h0 = h) := by
  refine oC.of (L := #[.val (.ref a1), .val (.ref a2)]) pn3 Z0 (fun m => by first | (simp [entryFrame, mkF, argsToLocals, Value.category]; done) | rfl) ?_
  intro p e s m below meth c T H
  refine o_aloadN H rfl rfl d3_0 rfl ?_
  refine o_ifnull_f H d3_1 rfl ?_
  refine o_aloadN H rfl rfl d3_4 rfl ?_
  refine o_arraylength H (2 : Int32) A_a1 rfl d3_5 rfl ?_
  refine o_aloadN H rfl rfl d3_6 rfl ?_
  refine o_arraylength H (2 : Int32) A_a2 rfl d3_7 rfl ?_
  refine o_icmp_t H d3_8 (by decide) (pt := 13) (by decide) (by decide) ?_
  refine o_aloadN H rfl rfl d3_13 rfl ?_
  refine o_arraylength H (2 : Int32) A_a2 rfl d3_14 rfl ?_
  refine o_iconst H (1 : Int32) rfl d3_15 rfl ?_
  refine o_icmp_f H d3_16 (by decide) rfl ?_
  refine o_aloadN H rfl rfl d3_19 rfl ?_
  refine o_iconst H (0 : Int32) rfl d3_20 rfl ?_
  refine o_iaload H 0 (.int u0) A_a1 (by decide) rfl d3_21 rfl ?_
  refine o_aloadN H rfl rfl d3_22 rfl ?_
  refine o_iconst H (0 : Int32) rfl d3_23 rfl ?_
  refine o_iaload H 0 (.int u0) A_a2 (by decide) rfl d3_24 rfl ?_
  refine o_icmp_t H d3_25 (XT.ii_eq_t rfl) (pt := 30) (by decide) (by decide) ?_
  refine o_aloadN H rfl rfl d3_30 rfl ?_
  refine o_arraylength H (2 : Int32) A_a2 rfl d3_31 rfl ?_
  refine o_iconst H (2 : Int32) rfl d3_32 rfl ?_
  refine o_icmp_f H d3_33 (by decide) rfl ?_
  refine o_aloadN H rfl rfl d3_36 rfl ?_
  refine o_iconst H (1 : Int32) rfl d3_37 rfl ?_
  refine o_iaload H 1 (.int u1) A_a1 (by decide) rfl d3_38 rfl ?_
  refine o_aloadN H rfl rfl d3_39 rfl ?_
  refine o_iconst H (1 : Int32) rfl d3_40 rfl ?_
  refine o_iaload H 1 (.int u1) A_a2 (by decide) rfl d3_41 rfl ?_
  refine o_icmp_t H d3_42 (XT.ii_eq_t rfl) (pt := 47) (by decide) (by decide) ?_
  refine o_aloadN H rfl rfl d3_47 rfl ?_
  refine o_arraylength H (2 : Int32) A_a2 rfl d3_48 rfl ?_
  refine o_iconst H (3 : Int32) rfl d3_49 rfl ?_
  refine o_icmp_t H d3_50 (by decide) (pt := 64) (by decide) (by decide) ?_
  refine o_aloadN H rfl rfl d3_64 rfl ?_
  refine o_arraylength H (2 : Int32) A_a2 rfl d3_65 rfl ?_
  refine o_iconst H (4 : Int32) rfl d3_66 rfl ?_
  refine o_icmp_t H d3_67 (by decide) (pt := 81) (by decide) (by decide) ?_
  refine o_iconst H (1 : Int32) rfl d3_81 rfl ?_
  exact o_nreturn H .boolean rfl (by simp) d3_82 (by decide) (by decide) ⟨rfl, rfl⟩
set_option maxRecDepth 65536 in
set_option maxHeartbeats 40000000 in
theorem rm3_3 (l : Launch) (Z : State) (a0 : Array Value) (hw : ∀ d ∈ tables_1, d.before a0 Z = true) (a1 : Addr) (a2 : Addr) (u0 : Int32) (u1 : Int32) (u2 : Int32) (h0 : Heap) (n0 : Nat) (Z0 : n0 ≤ h0.size) (A_a1 : oA .int Z h0 a1 [(.int u0), (.int u1), (.int u2)]) (A_a2 : oA .int Z h0 a2 [(.int u0), (.int u1), (.int u2)]) :
    oC l Z n0 (⟨"com/example/following_sibling/followingsibling/IndexesWithoutPinLaw", "same", "([I[I)Z"⟩ : MethodName) method_4_code 2 (some .boolean) ({ frames := 0, cells := 0, slots := 0, locals := 0 } : Room) 0 0 #[(.ref a1), (.ref a2)] h0 (fun v h => v = some (.int 1) ∧ h0 = h) := by
  refine oC.of (L := #[.val (.ref a1), .val (.ref a2)]) pn3 Z0 (fun m => by first | (simp [entryFrame, mkF, argsToLocals, Value.category]; done) | rfl) ?_
  intro p e s m below meth c T H
  refine o_aloadN H rfl rfl d3_0 rfl ?_
  refine o_ifnull_f H d3_1 rfl ?_
  refine o_aloadN H rfl rfl d3_4 rfl ?_
  refine o_arraylength H (3 : Int32) A_a1 rfl d3_5 rfl ?_
  refine o_aloadN H rfl rfl d3_6 rfl ?_
  refine o_arraylength H (3 : Int32) A_a2 rfl d3_7 rfl ?_
  refine o_icmp_t H d3_8 (by decide) (pt := 13) (by decide) (by decide) ?_
  refine o_aloadN H rfl rfl d3_13 rfl ?_
  refine o_arraylength H (3 : Int32) A_a2 rfl d3_14 rfl ?_
  refine o_iconst H (1 : Int32) rfl d3_15 rfl ?_
  refine o_icmp_f H d3_16 (by decide) rfl ?_
  refine o_aloadN H rfl rfl d3_19 rfl ?_
  refine o_iconst H (0 : Int32) rfl d3_20 rfl ?_
  refine o_iaload H 0 (.int u0) A_a1 (by decide) rfl d3_21 rfl ?_
  refine o_aloadN H rfl rfl d3_22 rfl ?_
  refine o_iconst H (0 : Int32) rfl d3_23 rfl ?_
  refine o_iaload H 0 (.int u0) A_a2 (by decide) rfl d3_24 rfl ?_
  refine o_icmp_t H d3_25 (XT.ii_eq_t rfl) (pt := 30) (by decide) (by decide) ?_
  refine o_aloadN H rfl rfl d3_30 rfl ?_
  refine o_arraylength H (3 : Int32) A_a2 rfl d3_31 rfl ?_
  refine o_iconst H (2 : Int32) rfl d3_32 rfl ?_
  refine o_icmp_f H d3_33 (by decide) rfl ?_
  refine o_aloadN H rfl rfl d3_36 rfl ?_
  refine o_iconst H (1 : Int32) rfl d3_37 rfl ?_
  refine o_iaload H 1 (.int u1) A_a1 (by decide) rfl d3_38 rfl ?_
  refine o_aloadN H rfl rfl d3_39 rfl ?_
  refine o_iconst H (1 : Int32) rfl d3_40 rfl ?_
  refine o_iaload H 1 (.int u1) A_a2 (by decide) rfl d3_41 rfl ?_
  refine o_icmp_t H d3_42 (XT.ii_eq_t rfl) (pt := 47) (by decide) (by decide) ?_
  refine o_aloadN H rfl rfl d3_47 rfl ?_
  refine o_arraylength H (3 : Int32) A_a2 rfl d3_48 rfl ?_
  refine o_iconst H (3 : Int32) rfl d3_49 rfl ?_
  refine o_icmp_f H d3_50 (by decide) rfl ?_
  refine o_aloadN H rfl rfl d3_53 rfl ?_
  refine o_iconst H (2 : Int32) rfl d3_54 rfl ?_
  refine o_iaload H 2 (.int u2) A_a1 (by decide) rfl d3_55 rfl ?_
  refine o_aloadN H rfl rfl d3_56 rfl ?_
  refine o_iconst H (2 : Int32) rfl d3_57 rfl ?_
  refine o_iaload H 2 (.int u2) A_a2 (by decide) rfl d3_58 rfl ?_
  refine o_icmp_t H d3_59 (XT.ii_eq_t rfl) (pt := 64) (by decide) (by decide) ?_
  refine o_aloadN H rfl rfl d3_64 rfl ?_
  refine o_arraylength H (3 : Int32) A_a2 rfl d3_65 rfl ?_
  refine o_iconst H (4 : Int32) rfl d3_66 rfl ?_
  refine o_icmp_t H d3_67 (by decide) (pt := 81) (by decide) (by decide) ?_
  refine o_iconst H (1 : Int32) rfl d3_81 rfl ?_
  exact o_nreturn H .boolean rfl (by simp) d3_82 (by decide) (by decide) ⟨rfl, rfl⟩
set_option maxRecDepth 65536 in
set_option maxHeartbeats 40000000 in
theorem rm3_4 (l : Launch) (Z : State) (a0 : Array Value) (hw : ∀ d ∈ tables_1, d.before a0 Z = true) (a1 : Addr) (a2 : Addr) (u0 : Int32) (u1 : Int32) (u2 : Int32) (u3 : Int32) (h0 : Heap) (n0 : Nat) (Z0 : n0 ≤ h0.size) (A_a1 : oA .int Z h0 a1 [(.int u0), (.int u1), (.int u2), (.int u3)]) (A_a2 : oA .int Z h0 a2 [(.int u0), (.int u1), (.int u2), (.int u3)]) :
    oC l Z n0 (⟨"com/example/following_sibling/followingsibling/IndexesWithoutPinLaw", "same", "([I[I)Z"⟩ : MethodName) method_4_code 2 (some .boolean) ({ frames := 0, cells := 0, slots := 0, locals := 0 } : Room) 0 0 #[(.ref a1), (.ref a2)] h0 (fun v h => v = some (.int 1) ∧ h0 = h) := by
  refine oC.of (L := #[.val (.ref a1), .val (.ref a2)]) pn3 Z0 (fun m => by first | (simp [entryFrame, mkF, argsToLocals, Value.category]; done) | rfl) ?_
  intro p e s m below meth c T H
  refine o_aloadN H rfl rfl d3_0 rfl ?_
  refine o_ifnull_f H d3_1 rfl ?_
  refine o_aloadN H rfl rfl d3_4 rfl ?_
  refine o_arraylength H (4 : Int32) A_a1 rfl d3_5 rfl ?_
  refine o_aloadN H rfl rfl d3_6 rfl ?_
  refine o_arraylength H (4 : Int32) A_a2 rfl d3_7 rfl ?_
  refine o_icmp_t H d3_8 (by decide) (pt := 13) (by decide) (by decide) ?_
  refine o_aloadN H rfl rfl d3_13 rfl ?_
  refine o_arraylength H (4 : Int32) A_a2 rfl d3_14 rfl ?_
  refine o_iconst H (1 : Int32) rfl d3_15 rfl ?_
  refine o_icmp_f H d3_16 (by decide) rfl ?_
  refine o_aloadN H rfl rfl d3_19 rfl ?_
  refine o_iconst H (0 : Int32) rfl d3_20 rfl ?_
  refine o_iaload H 0 (.int u0) A_a1 (by decide) rfl d3_21 rfl ?_
  refine o_aloadN H rfl rfl d3_22 rfl ?_
  refine o_iconst H (0 : Int32) rfl d3_23 rfl ?_
  refine o_iaload H 0 (.int u0) A_a2 (by decide) rfl d3_24 rfl ?_
  refine o_icmp_t H d3_25 (XT.ii_eq_t rfl) (pt := 30) (by decide) (by decide) ?_
  refine o_aloadN H rfl rfl d3_30 rfl ?_
  refine o_arraylength H (4 : Int32) A_a2 rfl d3_31 rfl ?_
  refine o_iconst H (2 : Int32) rfl d3_32 rfl ?_
  refine o_icmp_f H d3_33 (by decide) rfl ?_
  refine o_aloadN H rfl rfl d3_36 rfl ?_
  refine o_iconst H (1 : Int32) rfl d3_37 rfl ?_
  refine o_iaload H 1 (.int u1) A_a1 (by decide) rfl d3_38 rfl ?_
  refine o_aloadN H rfl rfl d3_39 rfl ?_
  refine o_iconst H (1 : Int32) rfl d3_40 rfl ?_
  refine o_iaload H 1 (.int u1) A_a2 (by decide) rfl d3_41 rfl ?_
  refine o_icmp_t H d3_42 (XT.ii_eq_t rfl) (pt := 47) (by decide) (by decide) ?_
  refine o_aloadN H rfl rfl d3_47 rfl ?_
  refine o_arraylength H (4 : Int32) A_a2 rfl d3_48 rfl ?_
  refine o_iconst H (3 : Int32) rfl d3_49 rfl ?_
  refine o_icmp_f H d3_50 (by decide) rfl ?_
  refine o_aloadN H rfl rfl d3_53 rfl ?_
  refine o_iconst H (2 : Int32) rfl d3_54 rfl ?_
  refine o_iaload H 2 (.int u2) A_a1 (by decide) rfl d3_55 rfl ?_
  refine o_aloadN H rfl rfl d3_56 rfl ?_
  refine o_iconst H (2 : Int32) rfl d3_57 rfl ?_
  refine o_iaload H 2 (.int u2) A_a2 (by decide) rfl d3_58 rfl ?_
  refine o_icmp_t H d3_59 (XT.ii_eq_t rfl) (pt := 64) (by decide) (by decide) ?_
  refine o_aloadN H rfl rfl d3_64 rfl ?_
  refine o_arraylength H (4 : Int32) A_a2 rfl d3_65 rfl ?_
  refine o_iconst H (4 : Int32) rfl d3_66 rfl ?_
  refine o_icmp_f H d3_67 (by decide) rfl ?_
  refine o_aloadN H rfl rfl d3_70 rfl ?_
  refine o_iconst H (3 : Int32) rfl d3_71 rfl ?_
  refine o_iaload H 3 (.int u3) A_a1 (by decide) rfl d3_72 rfl ?_
  refine o_aloadN H rfl rfl d3_73 rfl ?_
  refine o_iconst H (3 : Int32) rfl d3_74 rfl ?_
  refine o_iaload H 3 (.int u3) A_a2 (by decide) rfl d3_75 rfl ?_
  refine o_icmp_t H d3_76 (XT.ii_eq_t rfl) (pt := 81) (by decide) (by decide) ?_
  refine o_iconst H (1 : Int32) rfl d3_81 rfl ?_
  exact o_nreturn H .boolean rfl (by simp) d3_82 (by decide) (by decide) ⟨rfl, rfl⟩
theorem rm3 (l : Launch) (Z : State) (a0 : Array Value) (hw : ∀ d ∈ tables_1, d.before a0 Z = true) (a1 a2 : Addr) (vs : List Int32) (h0 : Heap) (n0 : Nat) (Z0 : n0 ≤ h0.size) (h4 : vs.length ≤ 4) (A1 : oA .int Z h0 a1 (vs.map Value.int)) (A2 : oA .int Z h0 a2 (vs.map Value.int)) :
    oC l Z n0 (⟨"com/example/following_sibling/followingsibling/IndexesWithoutPinLaw", "same", "([I[I)Z"⟩ : MethodName) method_4_code 2 (some .boolean) ({ frames := 0, cells := 0, slots := 0, locals := 0 } : Room) 0 0 #[(.ref a1), (.ref a2)] h0 (fun v h => v = some (.int 1) ∧ h0 = h) := by
  match vs, h4, A1, A2 with
  | [], _, A1, A2 => exact rm3_0 l Z a0 hw a1 a2 h0 n0 Z0 A1 A2
  | [u0], _, A1, A2 => exact rm3_1 l Z a0 hw a1 a2 u0 h0 n0 Z0 A1 A2
  | [u0, u1], _, A1, A2 => exact rm3_2 l Z a0 hw a1 a2 u0 u1 h0 n0 Z0 A1 A2
  | [u0, u1, u2], _, A1, A2 => exact rm3_3 l Z a0 hw a1 a2 u0 u1 u2 h0 n0 Z0 A1 A2
  | [u0, u1, u2, u3], _, A1, A2 => exact rm3_4 l Z a0 hw a1 a2 u0 u1 u2 u3 h0 n0 Z0 A1 A2
  | _ :: _ :: _ :: _ :: _ :: _, h, _, _ => exact absurd h (by simp)
theorem d2_0 : decode prog_38_method_3_code 0 = .ok (.aload_n 0, 1) := by decide +kernel
theorem d2_1 : decode prog_38_method_3_code 1 = .ok (.arraylength, 1) := by decide +kernel
theorem d2_2 : decode prog_38_method_3_code 2 = .ok (.aload_n 1, 1) := by decide +kernel
theorem d2_3 : decode prog_38_method_3_code 3 = .ok (.arraylength, 1) := by decide +kernel
theorem d2_4 : decode prog_38_method_3_code 4 = .ok (.isub, 1) := by decide +kernel
theorem d2_5 : decode prog_38_method_3_code 5 = .ok (.newarray .int, 2) := by decide +kernel
theorem d2_7 : decode prog_38_method_3_code 7 = .ok (.astore_n 2, 1) := by decide +kernel
theorem d2_8 : decode prog_38_method_3_code 8 = .ok (.iconst 0, 1) := by decide +kernel
theorem d2_9 : decode prog_38_method_3_code 9 = .ok (.istore_n 3, 1) := by decide +kernel
theorem d2_10 : decode prog_38_method_3_code 10 = .ok (.iconst 0, 1) := by decide +kernel
theorem d2_11 : decode prog_38_method_3_code 11 = .ok (.istore 4, 2) := by decide +kernel
theorem d2_13 : decode prog_38_method_3_code 13 = .ok (.aload_n 0, 1) := by decide +kernel
theorem d2_14 : decode prog_38_method_3_code 14 = .ok (.astore 5, 2) := by decide +kernel
theorem d2_16 : decode prog_38_method_3_code 16 = .ok (.aload 5, 2) := by decide +kernel
theorem d2_18 : decode prog_38_method_3_code 18 = .ok (.arraylength, 1) := by decide +kernel
theorem d2_19 : decode prog_38_method_3_code 19 = .ok (.istore 6, 2) := by decide +kernel
theorem d2_21 : decode prog_38_method_3_code 21 = .ok (.iconst 0, 1) := by decide +kernel
theorem d2_22 : decode prog_38_method_3_code 22 = .ok (.istore 7, 2) := by decide +kernel
theorem d2_24 : decode prog_38_method_3_code 24 = .ok (.iload 7, 2) := by decide +kernel
theorem d2_26 : decode prog_38_method_3_code 26 = .ok (.iload 6, 2) := by decide +kernel
theorem d2_28 : decode prog_38_method_3_code 28 = .ok (.if_icmp .ge 46, 3) := by decide +kernel
theorem d2_31 : decode prog_38_method_3_code 31 = .ok (.aload 5, 2) := by decide +kernel
theorem d2_33 : decode prog_38_method_3_code 33 = .ok (.iload 7, 2) := by decide +kernel
theorem d2_35 : decode prog_38_method_3_code 35 = .ok (.iaload, 1) := by decide +kernel
theorem d2_36 : decode prog_38_method_3_code 36 = .ok (.istore 8, 2) := by decide +kernel
theorem d2_38 : decode prog_38_method_3_code 38 = .ok (.iload 4, 2) := by decide +kernel
theorem d2_40 : decode prog_38_method_3_code 40 = .ok (.aload_n 1, 1) := by decide +kernel
theorem d2_41 : decode prog_38_method_3_code 41 = .ok (.arraylength, 1) := by decide +kernel
theorem d2_42 : decode prog_38_method_3_code 42 = .ok (.if_icmp .ge 18, 3) := by decide +kernel
theorem d2_45 : decode prog_38_method_3_code 45 = .ok (.aload_n 1, 1) := by decide +kernel
theorem d2_46 : decode prog_38_method_3_code 46 = .ok (.iload 4, 2) := by decide +kernel
theorem d2_48 : decode prog_38_method_3_code 48 = .ok (.iaload, 1) := by decide +kernel
theorem d2_49 : decode prog_38_method_3_code 49 = .ok (.iload 8, 2) := by decide +kernel
theorem d2_51 : decode prog_38_method_3_code 51 = .ok (.if_icmp .ne 9, 3) := by decide +kernel
theorem d2_54 : decode prog_38_method_3_code 54 = .ok (.iinc 4 1, 3) := by decide +kernel
theorem d2_57 : decode prog_38_method_3_code 57 = .ok (.goto 11, 3) := by decide +kernel
theorem d2_60 : decode prog_38_method_3_code 60 = .ok (.aload_n 2, 1) := by decide +kernel
theorem d2_61 : decode prog_38_method_3_code 61 = .ok (.iload_n 3, 1) := by decide +kernel
theorem d2_62 : decode prog_38_method_3_code 62 = .ok (.iload 8, 2) := by decide +kernel
theorem d2_64 : decode prog_38_method_3_code 64 = .ok (.iastore, 1) := by decide +kernel
theorem d2_65 : decode prog_38_method_3_code 65 = .ok (.iinc 3 1, 3) := by decide +kernel
theorem d2_68 : decode prog_38_method_3_code 68 = .ok (.iinc 7 1, 3) := by decide +kernel
theorem d2_71 : decode prog_38_method_3_code 71 = .ok (.goto (-47), 3) := by decide +kernel
theorem d2_74 : decode prog_38_method_3_code 74 = .ok (.aload_n 2, 1) := by decide +kernel
theorem d2_75 : decode prog_38_method_3_code 75 = .ok (.areturn, 1) := by decide +kernel
theorem pn2 : plainFor (⟨"com/example/following_sibling/followingsibling/Indexes", "without", "([I[I)[I"⟩ : MethodName) = true := plainFor_of_name (by first | (simp [plainName, overriddenIn]; done) | decide +kernel)
theorem pd2 : parseMethodDescriptor "([I[I)[I" = some ⟨[(.array .int), (.array .int)], some (.array .int)⟩ := by decide +kernel
set_option maxRecDepth 65536 in
set_option maxHeartbeats 40000000 in
theorem rm2 (l : Launch) (Z : State) (a0 : Array Value) (hw : ∀ d ∈ tables_1, d.before a0 Z = true) (a1 : Addr) (a2 : Addr) (xs ys : List Int32) (h0 : Heap) (n0 : Nat) (Z0 : n0 ≤ h0.size) (A_a1 : oA .int Z h0 a1 (xs.map Value.int)) (A_a2 : oA .int Z h0 a2 (ys.map Value.int)) (hlw : (own_wo xs ys).length + ys.length = xs.length) (h4 : xs.length ≤ 4) :
    oC l Z n0 (⟨"com/example/following_sibling/followingsibling/Indexes", "without", "([I[I)[I"⟩ : MethodName) prog_38_method_3_code 9 (some (.array .int)) ({ frames := 0, cells := 1, slots := 4, locals := 0 } : Room) 1 4 #[(.ref a1), (.ref a2)] h0 (fun v h => ∃ r, v = some (.ref r) ∧ Keep h0 h [] ∧ h0.size ≤ r ∧ oA .int Z h r ((own_wo xs ys).map Value.int)) := by
  refine oC.of (L := #[.val (.ref a1), .val (.ref a2), .unset, .unset, .unset, .unset, .unset, .unset, .unset]) pn2 Z0 (fun m => by first | (simp [entryFrame, mkF, argsToLocals, Value.category]; done) | rfl) ?_
  intro p e s m below meth c T H
  refine o_aloadN H rfl rfl d2_0 rfl ?_
  refine o_arraylength H (Int32.ofNat xs.length) A_a1 o_len d2_1 rfl ?_
  refine o_aloadN H rfl rfl d2_2 rfl ?_
  refine o_arraylength H (Int32.ofNat ys.length) A_a2 o_len d2_3 rfl ?_
  refine o_isub H d2_4 rfl ?_
  have hN : (Int32.ofNat xs.length - Int32.ofNat ys.length).toInt = (xs.length : Int) - ys.length := by
    rw [Int32.toInt_sub, o_ofNat (by omega), o_ofNat (by omega)]; apply Int.bmod_eq_of_le <;> omega
  refine o_newarr (aty := .int) H 4 (xs.length - ys.length) (w5 hw) (by rw [hN]; omega) (by omega) (by decide) d2_5 rfl (by decide) (by decide) ?_
  intro T1 h1 b1 g1 H1 E1 A1
  have ne1_a1 : a1 ≠ b1 := by rw [g1]; exact Nat.ne_of_lt (A_a1).lt
  have ne1_a2 : a2 ≠ b1 := by rw [g1]; exact Nat.ne_of_lt (A_a2).lt
  have z1 : n0 ≤ b1 := by rw [g1]; exact H.le
  have y1 : h0.size ≤ b1 := by rw [g1]; exact (Keep.refl h0 []).1
  have k2 := (Keep.refl h0 []).ext E1
  have f3 := A_a1.ext E1
  have f4 := A_a2.ext E1
  have f5 : oA .int Z h1 b1 (List.replicate (xs.length - ys.length) (.int 0)) := A1
  refine o_astoreN H1 (L' := #[.val (.ref a1), .val (.ref a2), .val (.ref b1), .unset, .unset, .unset, .unset, .unset, .unset]) rfl rfl d2_7 rfl ?_
  refine o_iconst H1 (0 : Int32) rfl d2_8 rfl ?_
  refine o_istoreN H1 (L' := #[.val (.ref a1), .val (.ref a2), .val (.ref b1), .val (.int (0 : Int32)), .unset, .unset, .unset, .unset, .unset]) rfl d2_9 rfl ?_
  refine o_iconst H1 (0 : Int32) rfl d2_10 rfl ?_
  refine o_istore H1 (L' := #[.val (.ref a1), .val (.ref a2), .val (.ref b1), .val (.int (0 : Int32)), .val (.int (0 : Int32)), .unset, .unset, .unset, .unset]) rfl d2_11 rfl ?_
  refine o_aloadN H1 rfl rfl d2_13 rfl ?_
  refine o_astore H1 (L' := #[.val (.ref a1), .val (.ref a2), .val (.ref b1), .val (.int (0 : Int32)), .val (.int (0 : Int32)), .val (.ref a1), .unset, .unset, .unset]) rfl rfl d2_14 rfl ?_
  refine o_aload H1 rfl rfl d2_16 rfl ?_
  refine o_arraylength H1 (Int32.ofNat xs.length) f3 o_len d2_18 rfl ?_
  refine o_istore H1 (L' := #[.val (.ref a1), .val (.ref a2), .val (.ref b1), .val (.int (0 : Int32)), .val (.int (0 : Int32)), .val (.ref a1), .val (.int (Int32.ofNat xs.length)), .unset, .unset]) rfl d2_19 rfl ?_
  refine o_iconst H1 (0 : Int32) rfl d2_21 rfl ?_
  refine o_istore H1 (L' := #[.val (.ref a1), .val (.ref a2), .val (.ref b1), .val (.int (0 : Int32)), .val (.int (0 : Int32)), .val (.ref a1), .val (.int (Int32.ofNat xs.length)), .val (.int (0 : Int32)), .unset]) rfl d2_22 rfl ?_
  have loop : ∀ (k i ip : Nat) (dn : List Int32) (T' : State) (h' : Heap) (s8 : Slot), i + k = xs.length → own_wo xs ys = dn ++ own_wo (xs.drop i) (ys.drop ip) → ip ≤ ys.length → Keep h0 h' [] → oA .int Z h' b1 ((dn ++ List.replicate (xs.length - ys.length - dn.length) 0).map Value.int) → (s8 = .unset ∨ ∃ z, s8 = .val (.int z)) → oH p l e ({ frames := 0, cells := 1, slots := 4, locals := 0 } : Room) s m #[(.ref a1), (.ref a2)] below meth c prog_38_method_3_code 9 (⟨"com/example/following_sibling/followingsibling/Indexes", "without", "([I[I)[I"⟩ : MethodName) (some (.array .int)) Z n0 T' h' 1 4 → oG p e below s n0 1 4 (fun v h => ∃ r, v = some (.ref r) ∧ Keep h0 h [] ∧ h0.size ≤ r ∧ oA .int Z h r ((own_wo xs ys).map Value.int)) (T'.setTop (mkF m 24 #[.val (.ref a1), .val (.ref a2), .val (.ref b1), .val (.int (Int32.ofNat dn.length)), .val (.int (Int32.ofNat ip)), .val (.ref a1), .val (.int (Int32.ofNat xs.length)), .val (.int (Int32.ofNat i)), s8] [])) := by
    intro k
    induction k with
    | zero =>
      intro i ip dn T' h' s8 hk hwo hip0 K A hs8 H'
      obtain rfl : i = xs.length := by omega
      have hdn : dn = own_wo xs ys := by rw [hwo]; simp [own_wo]
      refine o_iload H' rfl d2_24 rfl ?_
      refine o_iload H' rfl d2_26 rfl ?_
      refine o_icmp_t H' d2_28 (XT.ii_ge_t (by rw [n_lt]; omega)) (pt := 74) (by decide) (by decide) ?_
      refine o_aloadN H' rfl rfl d2_74 rfl ?_
      have q0 : xs.length - ys.length - dn.length = 0 := by rw [hdn]; omega
      rw [q0] at A
      have A9 : oA .int Z h' b1 ((own_wo xs ys).map Value.int) := by rw [← hdn]; simpa using A
      exact o_areturn H' rfl rfl rfl rfl d2_75 (by decide) (by decide) ⟨_, rfl, K, y1, A9⟩
    | succ k ih =>
      intro i ip dn T' h' s8 hk hwo hip0 K A hs8 H'
      have hi : i < xs.length := by omega
      have A1 := A_a1.keep K nin0
      have A2 := A_a2.keep K nin0
      have hlen := congrArg List.length hwo
      rw [List.length_append] at hlen
      rw [List.drop_eq_getElem_cons hi] at hwo hlen
      refine o_iload H' rfl d2_24 rfl ?_
      refine o_iload H' rfl d2_26 rfl ?_
      refine o_icmp_f H' d2_28 (XT.ii_ge_f (by rw [n_lt, o_ofNat (by omega), o_ofNat (by omega)]; omega)) rfl ?_
      refine o_aload H' rfl rfl d2_31 rfl ?_
      refine o_iload H' rfl d2_33 rfl ?_
      refine o_iaload H' i (.int (xs[i]'hi)) A1 (o_ofNat (by omega)) (o_get hi) d2_35 rfl ?_
      refine o_istore H' (L' := #[.val (.ref a1), .val (.ref a2), .val (.ref b1), .val (.int (Int32.ofNat dn.length)), .val (.int (Int32.ofNat ip)), .val (.ref a1), .val (.int (Int32.ofNat xs.length)), .val (.int (Int32.ofNat i)), .val (.int (xs[i]'hi))]) (o_one rfl hs8 rfl) d2_36 rfl ?_
      refine o_iload H' rfl d2_38 rfl ?_
      refine o_aloadN H' rfl rfl d2_40 rfl ?_
      refine o_arraylength H' (Int32.ofNat ys.length) A2 o_len d2_41 rfl ?_
      refine o_icmp_ge H' d2_42 (pt := 60) (by decide) (by decide) rfl ?_ ?_
      · intro c42_6
        have hip : ys.length ≤ ip := by rw [n_lt, o_ofNat (by omega), o_ofNat (by omega)] at c42_6; omega
        have hw2 : own_wo (xs[i]'hi :: xs.drop (i + 1)) (ys.drop ip) = (xs[i]'hi) :: own_wo (xs.drop (i + 1)) (ys.drop ip) := by
          rw [List.drop_eq_nil_of_le hip, own_wo1]
        rw [hw2] at hwo hlen
        rw [List.length_cons] at hlen
        refine o_aloadN H' rfl rfl d2_60 rfl ?_
        refine o_iloadN H' rfl d2_61 rfl ?_
        refine o_iload H' rfl d2_62 rfl ?_
        refine o_iastore H' dn.length A (o_ofNat (by omega)) (by simp; omega) z1 d2_64 rfl ?_
        intro T7 h7 H7 W7 A7
        have k8 := K.wr W7 (Or.inr y1)
        have f9 := A1.other W7 ne1_a1
        have f10 := A2.other W7 ne1_a2
        refine o_iinc H7 (1 : Int32) (Int32.ofNat (dn.length + 1)) rfl o_succ rfl (L' := #[.val (.ref a1), .val (.ref a2), .val (.ref b1), .val (.int (Int32.ofNat (dn.length + 1))), .val (.int (Int32.ofNat ip)), .val (.ref a1), .val (.int (Int32.ofNat xs.length)), .val (.int (Int32.ofNat i)), .val (.int (xs[i]'hi))]) rfl d2_65 rfl ?_
        refine o_iinc H7 (1 : Int32) (Int32.ofNat (i + 1)) rfl o_succ rfl (L' := #[.val (.ref a1), .val (.ref a2), .val (.ref b1), .val (.int (Int32.ofNat (dn.length + 1))), .val (.int (Int32.ofNat ip)), .val (.ref a1), .val (.int (Int32.ofNat xs.length)), .val (.int (Int32.ofNat (i + 1))), .val (.int (xs[i]'hi))]) rfl d2_68 rfl ?_
        refine o_goto H7 d2_71 (pt := 24) (by decide) (by decide) ?_
        have q := ih (i + 1) ip (dn ++ [xs[i]'hi]) T7 h7 (.val (.int (xs[i]'hi))) (by omega) (by rw [hwo]; simp) hip0 k8 ?_ (Or.inr ⟨_, rfl⟩) H7
        · rw [List.length_append, List.length_singleton] at q
          exact q
        · have e : xs.length - ys.length - dn.length = (xs.length - ys.length - (dn ++ [xs[i]'hi]).length) + 1 := by rw [List.length_append, List.length_singleton]; omega
          have q := A7
          rw [e, List.replicate_succ] at q
          simpa using q
      · intro c42_6
        have hip : ip < ys.length := by rw [n_lt, o_ofNat (by omega), o_ofNat (by omega)] at c42_6; omega
        refine o_aloadN H' rfl rfl d2_45 rfl ?_
        refine o_iload H' rfl d2_46 rfl ?_
        refine o_iaload H' ip (.int (ys[ip]'hip)) A2 (o_ofNat (by omega)) (o_get hip) d2_48 rfl ?_
        refine o_iload H' rfl d2_49 rfl ?_
        refine o_icmp_ne H' d2_51 (pt := 60) (by decide) (by decide) rfl ?_ ?_
        · intro c51_11
          have hw2 : own_wo (xs[i]'hi :: xs.drop (i + 1)) (ys.drop ip) = (xs[i]'hi) :: own_wo (xs.drop (i + 1)) (ys.drop ip) := by
            rw [List.drop_eq_getElem_cons hip, own_wo2, if_neg c51_11]
          rw [hw2] at hwo hlen
          rw [List.length_cons] at hlen
          refine o_aloadN H' rfl rfl d2_60 rfl ?_
          refine o_iloadN H' rfl d2_61 rfl ?_
          refine o_iload H' rfl d2_62 rfl ?_
          refine o_iastore H' dn.length A (o_ofNat (by omega)) (by simp; omega) z1 d2_64 rfl ?_
          intro T12 h12 H12 W12 A12
          have k13 := K.wr W12 (Or.inr y1)
          have f14 := A1.other W12 ne1_a1
          have f15 := A2.other W12 ne1_a2
          refine o_iinc H12 (1 : Int32) (Int32.ofNat (dn.length + 1)) rfl o_succ rfl (L' := #[.val (.ref a1), .val (.ref a2), .val (.ref b1), .val (.int (Int32.ofNat (dn.length + 1))), .val (.int (Int32.ofNat ip)), .val (.ref a1), .val (.int (Int32.ofNat xs.length)), .val (.int (Int32.ofNat i)), .val (.int (xs[i]'hi))]) rfl d2_65 rfl ?_
          refine o_iinc H12 (1 : Int32) (Int32.ofNat (i + 1)) rfl o_succ rfl (L' := #[.val (.ref a1), .val (.ref a2), .val (.ref b1), .val (.int (Int32.ofNat (dn.length + 1))), .val (.int (Int32.ofNat ip)), .val (.ref a1), .val (.int (Int32.ofNat xs.length)), .val (.int (Int32.ofNat (i + 1))), .val (.int (xs[i]'hi))]) rfl d2_68 rfl ?_
          refine o_goto H12 d2_71 (pt := 24) (by decide) (by decide) ?_
          have q := ih (i + 1) ip (dn ++ [xs[i]'hi]) T12 h12 (.val (.int (xs[i]'hi))) (by omega) (by rw [hwo]; simp) hip0 k13 ?_ (Or.inr ⟨_, rfl⟩) H12
          · rw [List.length_append, List.length_singleton] at q
            exact q
          · have e : xs.length - ys.length - dn.length = (xs.length - ys.length - (dn ++ [xs[i]'hi]).length) + 1 := by rw [List.length_append, List.length_singleton]; omega
            have q := A12
            rw [e, List.replicate_succ] at q
            simpa using q
        · intro c51_11
          refine o_iinc H' (1 : Int32) (Int32.ofNat (ip + 1)) rfl o_succ rfl (L' := #[.val (.ref a1), .val (.ref a2), .val (.ref b1), .val (.int (Int32.ofNat dn.length)), .val (.int (Int32.ofNat (ip + 1))), .val (.ref a1), .val (.int (Int32.ofNat xs.length)), .val (.int (Int32.ofNat i)), .val (.int (xs[i]'hi))]) rfl d2_54 rfl ?_
          refine o_goto H' d2_57 (pt := 68) (by decide) (by decide) ?_
          refine o_iinc H' (1 : Int32) (Int32.ofNat (i + 1)) rfl o_succ rfl (L' := #[.val (.ref a1), .val (.ref a2), .val (.ref b1), .val (.int (Int32.ofNat dn.length)), .val (.int (Int32.ofNat (ip + 1))), .val (.ref a1), .val (.int (Int32.ofNat xs.length)), .val (.int (Int32.ofNat (i + 1))), .val (.int (xs[i]'hi))]) rfl d2_68 rfl ?_
          refine o_goto H' d2_71 (pt := 24) (by decide) (by decide) ?_
          rw [List.drop_eq_getElem_cons hip, own_wo2, if_pos c51_11] at hwo
          exact ih (i + 1) (ip + 1) dn T' h' _ (by omega) hwo (by omega) K A (Or.inr ⟨_, rfl⟩) H'
  exact loop xs.length 0 0 [] T1 h1 .unset (by omega) (by simp) (by omega) k2 (by simpa using f5) (Or.inl rfl) H1
theorem pn0 : plainFor x = true := plainFor_of_name (by first | (simp [plainName, overriddenIn]; done) | decide +kernel)
set_option maxRecDepth 65536 in
set_option maxHeartbeats 40000000 in
theorem rm0 (l : Launch) (Z : State) (a0 : Array Value) (hw : ∀ d ∈ tables_1, d.before a0 Z = true) (p1 : Int32) (p2 : Int32) (p3 : Int32) (p4 : Int32) (p5 : Int32)  (h0 : Heap) (n0 : Nat) (Z0 : n0 ≤ h0.size)  :
    oC l Z n0 x code maxLocals ret room_1 24 128 #[(.int p1), (.int p2), (.int p3), (.int p4), (.int p5)] h0 (fun v h => v = some (.int 1)) := by
  refine oC.of (L := #[.val (.int p1), .val (.int p2), .val (.int p3), .val (.int p4), .val (.int p5), .unset, .unset, .unset, .unset, .unset, .unset, .unset, .unset, .unset, .unset, .unset]) pn0 Z0 (fun m => by first | (simp [entryFrame, mkF, argsToLocals, Value.category, maxLocals]; done) | rfl) ?_
  intro p e s m below meth c T H
  refine o_iloadN H rfl at_0 rfl ?_
  refine o_ldcI H (536870911 : Int32) (w0 hw) at_1 rfl ?_
  refine o_iand H at_3 rfl ?_
  obtain ⟨i0, e_i0⟩ : ∃ z : Int32, z = (p1 &&& (536870911 : Int32)) := ⟨_, rfl⟩
  rw [← e_i0]
  refine o_istore H (L' := #[.val (.int p1), .val (.int p2), .val (.int p3), .val (.int p4), .val (.int p5), .val (.int i0), .unset, .unset, .unset, .unset, .unset, .unset, .unset, .unset, .unset, .unset]) rfl at_4 rfl ?_
  refine o_iload H rfl at_6 rfl ?_
  refine o_iloadN H rfl at_8 rfl ?_
  refine o_ldcI H (536870911 : Int32) (w0 hw) at_9 rfl ?_
  refine o_iand H at_11 rfl ?_
  refine o_iadd H at_12 rfl ?_
  refine o_iconst H (1 : Int32) rfl at_13 rfl ?_
  refine o_iadd H at_14 rfl ?_
  obtain ⟨i1, e_i1⟩ : ∃ z : Int32, z = ((i0 + (p2 &&& (536870911 : Int32))) + (1 : Int32)) := ⟨_, rfl⟩
  rw [← e_i1]
  refine o_istore H (L' := #[.val (.int p1), .val (.int p2), .val (.int p3), .val (.int p4), .val (.int p5), .val (.int i0), .val (.int i1), .unset, .unset, .unset, .unset, .unset, .unset, .unset, .unset, .unset]) rfl at_15 rfl ?_
  refine o_iload H rfl at_17 rfl ?_
  refine o_iloadN H rfl at_19 rfl ?_
  refine o_ldcI H (536870911 : Int32) (w0 hw) at_20 rfl ?_
  refine o_iand H at_22 rfl ?_
  refine o_iadd H at_23 rfl ?_
  refine o_iconst H (1 : Int32) rfl at_24 rfl ?_
  refine o_iadd H at_25 rfl ?_
  obtain ⟨i2, e_i2⟩ : ∃ z : Int32, z = ((i1 + (p3 &&& (536870911 : Int32))) + (1 : Int32)) := ⟨_, rfl⟩
  rw [← e_i2]
  refine o_istore H (L' := #[.val (.int p1), .val (.int p2), .val (.int p3), .val (.int p4), .val (.int p5), .val (.int i0), .val (.int i1), .val (.int i2), .unset, .unset, .unset, .unset, .unset, .unset, .unset, .unset]) rfl at_26 rfl ?_
  refine o_iload H rfl at_28 rfl ?_
  refine o_iloadN H rfl at_30 rfl ?_
  refine o_ldcI H (536870911 : Int32) (w0 hw) at_31 rfl ?_
  refine o_iand H at_33 rfl ?_
  refine o_iadd H at_34 rfl ?_
  refine o_iconst H (1 : Int32) rfl at_35 rfl ?_
  refine o_iadd H at_36 rfl ?_
  obtain ⟨i3, e_i3⟩ : ∃ z : Int32, z = ((i2 + (p4 &&& (536870911 : Int32))) + (1 : Int32)) := ⟨_, rfl⟩
  rw [← e_i3]
  obtain ⟨d1, d2, d3, d4, d5, d6⟩ := own_dist p1 p2 p3 p4 i0 i1 i2 i3 e_i0 e_i1 e_i2 e_i3
  refine o_istore H (L' := #[.val (.int p1), .val (.int p2), .val (.int p3), .val (.int p4), .val (.int p5), .val (.int i0), .val (.int i1), .val (.int i2), .val (.int i3), .unset, .unset, .unset, .unset, .unset, .unset, .unset]) rfl at_37 rfl ?_
  refine o_iload H rfl at_39 rfl ?_
  refine o_iconst H (4 : Int32) rfl at_41 rfl ?_
  refine o_iushr H at_42 rfl ?_
  refine o_iconst H (5 : Int32) rfl at_43 rfl ?_
  refine o_irem H (by decide) at_44 rfl ?_
  obtain ⟨n, e_n⟩ : ∃ z : Int32, z = ((XT.ushr p5 (4 : Int32)) % (5 : Int32)) := ⟨_, rfl⟩
  rw [← e_n]
  refine o_istore H (L' := #[.val (.int p1), .val (.int p2), .val (.int p3), .val (.int p4), .val (.int p5), .val (.int i0), .val (.int i1), .val (.int i2), .val (.int i3), .val (.int n), .unset, .unset, .unset, .unset, .unset, .unset]) rfl at_45 rfl ?_
  refine o_iconst H (1 : Int32) rfl at_47 rfl ?_
  refine o_iload H rfl at_48 rfl ?_
  refine o_ishl H at_50 rfl ?_
  refine o_iconst H (1 : Int32) rfl at_51 rfl ?_
  refine o_isub H at_52 rfl ?_
  obtain ⟨f, e_f⟩ : ∃ z : Int32, z = (((1 : Int32) <<< (n &&& 31)) - (1 : Int32)) := ⟨_, rfl⟩
  rw [← e_f]
  refine o_istore H (L' := #[.val (.int p1), .val (.int p2), .val (.int p3), .val (.int p4), .val (.int p5), .val (.int i0), .val (.int i1), .val (.int i2), .val (.int i3), .val (.int n), .val (.int f), .unset, .unset, .unset, .unset, .unset]) rfl at_53 rfl ?_
  refine o_iload H rfl at_55 rfl ?_
  refine o_iload H rfl at_57 rfl ?_
  refine o_iand H at_59 rfl ?_
  obtain ⟨q, e_q⟩ : ∃ z : Int32, z = (p5 &&& f) := ⟨_, rfl⟩
  rw [← e_q]
  have M := own_main i0 i1 i2 i3 p5 n f q d1 d2 d3 d4 d5 d6 e_n e_f e_q
  refine o_istore H (L' := #[.val (.int p1), .val (.int p2), .val (.int p3), .val (.int p4), .val (.int p5), .val (.int i0), .val (.int i1), .val (.int i2), .val (.int i3), .val (.int n), .val (.int f), .val (.int q), .unset, .unset, .unset, .unset]) rfl at_60 rfl ?_
  refine o_iload H rfl at_62 rfl ?_
  refine o_iload H rfl at_64 rfl ?_
  refine o_iload H rfl at_66 rfl ?_
  refine o_iload H rfl at_68 rfl ?_
  refine o_iload H rfl at_70 rfl ?_
  refine o_static H [(.int i0), (.int i1), (.int i2), (.int i3), (.int f)] [] (rm1 l Z a0 hw i0 i1 i2 i3 f h0 n0 H.le) (w1 hw) (w2 hw) (w3 hw) (w4 hw) (by decide) (lenOf pd1 rfl) rfl rfl (by decide) (Nat.le_of_ble_eq_true rfl) (by decide) (by decide) at_72 rfl ?_
  intro T1 v1 h1 H1 q1
  obtain ⟨r1, rfl, K1, B1, A1⟩ := q1
  have z1 : n0 ≤ r1 := Nat.le_trans H.le B1
  show oG p e below s n0 _ _ _ (T1.setTop (mkF m 75 #[.val (.int p1), .val (.int p2), .val (.int p3), .val (.int p4), .val (.int p5), .val (.int i0), .val (.int i1), .val (.int i2), .val (.int i3), .val (.int n), .val (.int f), .val (.int q), .unset, .unset, .unset, .unset] [(.ref r1)]))
  refine o_astore H1 (L' := #[.val (.int p1), .val (.int p2), .val (.int p3), .val (.int p4), .val (.int p5), .val (.int i0), .val (.int i1), .val (.int i2), .val (.int i3), .val (.int n), .val (.int f), .val (.int q), .val (.ref r1), .unset, .unset, .unset]) rfl rfl at_75 rfl ?_
  refine o_iload H1 rfl at_77 rfl ?_
  refine o_iload H1 rfl at_79 rfl ?_
  refine o_iload H1 rfl at_81 rfl ?_
  refine o_iload H1 rfl at_83 rfl ?_
  refine o_iload H1 rfl at_85 rfl ?_
  refine o_static H1 [(.int i0), (.int i1), (.int i2), (.int i3), (.int q)] [] (rm1 l Z a0 hw i0 i1 i2 i3 q h1 n0 H1.le) (w1 hw) (w2 hw) (w3 hw) (w4 hw) (by decide) (lenOf pd1 rfl) rfl rfl (by decide) (Nat.le_of_ble_eq_true rfl) (by decide) (by decide) at_87 rfl ?_
  intro T2 v2 h2 H2 q2
  obtain ⟨r2, rfl, K2, B2, A2⟩ := q2
  have ne2_r1 : r1 ≠ r2 := Nat.ne_of_lt (Nat.lt_of_lt_of_le (A1).lt B2)
  have z2 : n0 ≤ r2 := Nat.le_trans H1.le B2
  have f3 := A1.keep K2 nin0
  show oG p e below s n0 _ _ _ (T2.setTop (mkF m 90 #[.val (.int p1), .val (.int p2), .val (.int p3), .val (.int p4), .val (.int p5), .val (.int i0), .val (.int i1), .val (.int i2), .val (.int i3), .val (.int n), .val (.int f), .val (.int q), .val (.ref r1), .unset, .unset, .unset] [(.ref r2)]))
  refine o_astore H2 (L' := #[.val (.int p1), .val (.int p2), .val (.int p3), .val (.int p4), .val (.int p5), .val (.int i0), .val (.int i1), .val (.int i2), .val (.int i3), .val (.int n), .val (.int f), .val (.int q), .val (.ref r1), .val (.ref r2), .unset, .unset]) rfl rfl at_90 rfl ?_
  refine o_iload H2 rfl at_92 rfl ?_
  refine o_iload H2 rfl at_94 rfl ?_
  refine o_iload H2 rfl at_96 rfl ?_
  refine o_iload H2 rfl at_98 rfl ?_
  refine o_iload H2 rfl at_100 rfl ?_
  refine o_iload H2 rfl at_102 rfl ?_
  refine o_iconst H2 (-1 : Int32) rfl at_104 rfl ?_
  refine o_ixor H2 at_105 rfl ?_
  refine o_iand H2 at_106 rfl ?_
  refine o_static H2 [(.int i0), (.int i1), (.int i2), (.int i3), (.int (f &&& (q ^^^ (-1 : Int32))))] [] (rm1 l Z a0 hw i0 i1 i2 i3 (f &&& (q ^^^ (-1 : Int32))) h2 n0 H2.le) (w1 hw) (w2 hw) (w3 hw) (w4 hw) (by decide) (lenOf pd1 rfl) rfl rfl (by decide) (Nat.le_of_ble_eq_true rfl) (by decide) (by decide) at_107 rfl ?_
  intro T4 v4 h4 H4 q4
  obtain ⟨r4, rfl, K4, B4, A4⟩ := q4
  have ne4_r1 : r1 ≠ r4 := Nat.ne_of_lt (Nat.lt_of_lt_of_le (f3).lt B4)
  have ne4_r2 : r2 ≠ r4 := Nat.ne_of_lt (Nat.lt_of_lt_of_le (A2).lt B4)
  have z4 : n0 ≤ r4 := Nat.le_trans H2.le B4
  have f5 := f3.keep K4 nin0
  have f6 := A2.keep K4 nin0
  show oG p e below s n0 _ _ _ (T4.setTop (mkF m 110 #[.val (.int p1), .val (.int p2), .val (.int p3), .val (.int p4), .val (.int p5), .val (.int i0), .val (.int i1), .val (.int i2), .val (.int i3), .val (.int n), .val (.int f), .val (.int q), .val (.ref r1), .val (.ref r2), .unset, .unset] [(.ref r4)]))
  refine o_astore H4 (L' := #[.val (.int p1), .val (.int p2), .val (.int p3), .val (.int p4), .val (.int p5), .val (.int i0), .val (.int i1), .val (.int i2), .val (.int i3), .val (.int n), .val (.int f), .val (.int q), .val (.ref r1), .val (.ref r2), .val (.ref r4), .unset]) rfl rfl at_110 rfl ?_
  refine o_aload H4 rfl rfl at_112 rfl ?_
  refine o_aload H4 rfl rfl at_114 rfl ?_
  refine o_static H4 [(.ref r1), (.ref r2)] [] (rm2 l Z a0 hw r1 r2 (own_pick i0 i1 i2 i3 f) (own_pick i0 i1 i2 i3 q) h4 n0 H4.le f5 f6 M.2 (by rw [own_pick_eq]; exact own_pb_len _ _ _ _ _ _ _ _)) (w6 hw) (w7 hw) (w8 hw) (w9 hw) (by decide) (lenOf pd2 rfl) rfl rfl (by decide) (Nat.le_of_ble_eq_true rfl) (by decide) (by decide) at_116 rfl ?_
  intro T7 v7 h7 H7 q7
  obtain ⟨r7, rfl, K7, B7, A7⟩ := q7
  have ne7_r1 : r1 ≠ r7 := Nat.ne_of_lt (Nat.lt_of_lt_of_le (f5).lt B7)
  have ne7_r2 : r2 ≠ r7 := Nat.ne_of_lt (Nat.lt_of_lt_of_le (f6).lt B7)
  have ne7_r4 : r4 ≠ r7 := Nat.ne_of_lt (Nat.lt_of_lt_of_le (A4).lt B7)
  have z7 : n0 ≤ r7 := Nat.le_trans H4.le B7
  have f8 := f5.keep K7 nin0
  have f9 := f6.keep K7 nin0
  have f10 := A4.keep K7 nin0
  show oG p e below s n0 _ _ _ (T7.setTop (mkF m 119 #[.val (.int p1), .val (.int p2), .val (.int p3), .val (.int p4), .val (.int p5), .val (.int i0), .val (.int i1), .val (.int i2), .val (.int i3), .val (.int n), .val (.int f), .val (.int q), .val (.ref r1), .val (.ref r2), .val (.ref r4), .unset] [(.ref r7)]))
  refine o_astore H7 (L' := #[.val (.int p1), .val (.int p2), .val (.int p3), .val (.int p4), .val (.int p5), .val (.int i0), .val (.int i1), .val (.int i2), .val (.int i3), .val (.int n), .val (.int f), .val (.int q), .val (.ref r1), .val (.ref r2), .val (.ref r4), .val (.ref r7)]) rfl rfl at_119 rfl ?_
  refine o_aload H7 rfl rfl at_121 rfl ?_
  refine o_aload H7 rfl rfl at_123 rfl ?_
  refine o_static H7 [(.ref r7), (.ref r4)] [] (rm3 l Z a0 hw r7 r4 (own_pick i0 i1 i2 i3 (f &&& (q ^^^ (-1)))) h7 n0 H7.le (by rw [own_pick_eq]; exact own_pb_len _ _ _ _ _ _ _ _) (by rw [← M.1]; exact A7) f10) (w10 hw) (w11 hw) (w3 hw) (w12 hw) (by decide) (lenOf pd3 rfl) rfl rfl (by decide) (Nat.le_of_ble_eq_true rfl) (by decide) (by decide) at_125 rfl ?_
  intro T11 v11 h11 H11 q11
  obtain ⟨rfl, rfl⟩ := q11
  show oG p e below s n0 _ _ _ (T11.setTop (mkF m 128 #[.val (.int p1), .val (.int p2), .val (.int p3), .val (.int p4), .val (.int p5), .val (.int i0), .val (.int i1), .val (.int i2), .val (.int i3), .val (.int n), .val (.int f), .val (.int q), .val (.ref r1), .val (.ref r2), .val (.ref r4), .val (.ref r7)] [(.int (1 : Int32))]))
  exact o_nreturn H11 .boolean rfl (by simp) at_128 (by decide) (by decide) rfl
set_option maxRecDepth 65536 in
set_option maxHeartbeats 40000000 in
theorem comes_1 {Post : Tables → Env → Array Value → State → Outcome → State → Prop} (hpost : ∀ tb e args s v u, (limb_1_1.after args s (.returned v) u = true ∧ limb_1_2.after args s (.returned v) u = true ∧ True) → FrameEnd s (.returned v) u (Jvm.fieldLocs frame_1_writes args s ++ Jvm.arrayLocs frame_1_arrays args s ++ Jvm.staticLocs frame_1_statics s) 24 128 → Post tb e args s (.returned v) u) :
    ArmFor flags0 classFile x code maxLocals ret World_1 tables_1 room_1 Calls_1 rest_1 Pre_1 Post := by
  intro l hfl _ _ p e ha hc hk s m args below hf hA hF happ hP
  obtain ⟨hcalls, hrest, hpre⟩ := hP
  obtain ⟨-, -, -, hnamed, -, -, -, hat⟩ := (Spec.applies_iff hf).mp happ
  obtain ⟨hg, hn⟩ := and_e (Cond.before_iff.mp (show (Jvm.Cond.and given_1 narrow_1).before args s = true from hpre))
  obtain ⟨g0, gs0⟩ := and_e hg
  obtain ⟨a0, gs1⟩ := and_e gs0
  obtain ⟨a1, gs2⟩ := and_e gs1
  obtain ⟨a2, gs3⟩ := and_e gs2
  obtain ⟨a3, gs4⟩ := and_e gs3
  have a4 := gs4
  obtain ⟨w0, w1, w2, w3, w4, rfl⟩ : ∃ w0 w1 w2 w3 w4 : Value, args = #[w0, w1, w2, w3, w4] := by
    have hs : args.size = 5 := by simpa [Cond.value, given_1] using g0
    obtain ⟨L⟩ := args
    match L, hs with
    | [w0, w1, w2, w3, w4], _ => exact ⟨w0, w1, w2, w3, w4, rfl⟩
  have hw := fun d (hd : d ∈ tables_1) => atoms_spec (ws := Jvm.Cond.code x code maxLocals ret :: tables_1) hat d (List.mem_cons_of_mem _ hd)
  have hfit : Fit s := fun {y c} hc i hi => by
    obtain ⟨ha, rfl⟩ := Array.getElem?_eq_some_iff.mp hc
    have q := List.all_eq_true.mp ((Array.all_eq_true_iff_forall_mem.mp hF) _ (Array.getElem_mem ha)) i (List.mem_range.mpr hi)
    simpa [Array.getElem?_eq_getElem hi] using q
  obtain ⟨i0, e0⟩ := is_v a0
  obtain rfl : w0 = (.int i0) := Option.some.inj e0
  obtain ⟨i1, e1⟩ := is_v a1
  obtain rfl : w1 = (.int i1) := Option.some.inj e1
  obtain ⟨i2, e2⟩ := is_v a2
  obtain rfl : w2 = (.int i2) := Option.some.inj e2
  obtain ⟨i3, e3⟩ := is_v a3
  obtain rfl : w3 = (.int i3) := Option.some.inj e3
  obtain ⟨i4, e4⟩ := is_v a4
  obtain rfl : w4 = (.int i4) := Option.some.inj e4
  obtain ⟨n, o, h1, h2, h3, _, L, rfl, ⟨rfl, N⟩, hq⟩ := rm0 l s _ hw i0 i1 i2 i3 i4  s.heap s.heap.size (Nat.le_refl _)  tables_1 p e ha hc hk s m _ below hf ((Spec.applies_iff_loose hf).mp happ).1 ⟨rfl, State.Warmed39.refl s, rfl⟩ trivial
  refine ⟨n, _, h1, h2, h3, hpost _ _ _ _ _ _ ⟨Cond.after_iff.mpr rfl, Cond.after_iff.mpr (eq_i res_at (Term.int_eval (1)) rfl), trivial⟩ ⟨hq.1, hq.2.1, (hq.2.2.sift fun y hy => Or.inr (N y hy)).mono (by decide) (by decide)⟩⟩
theorem main_1_1 : Claimed_1_1 := comes_1 fun _ _ _ _ _ _ h hF => ⟨h.1, hF⟩
theorem main_1_2 : Claimed_1_2 := comes_1 fun _ _ _ _ _ _ h hF => ⟨h.2.1, hF⟩
end Jvm.Pilot.@@N@@
namespace Jvm.Pilot.@@N@@
open Jvm Jvm.ClassFile Sem Op Lib Jvm.Free Jvm.Stand Jvm.Pilot.@@N@@.Jvm.D
/-! MADE BY PROGRAM (witnessworld.py) out of the Statement's table words and the real class files: 9 classes; the members and pool entries that the words name. The judged class is class 1, her method 1. -/
namespace start1
open Jvm.ClassFile
def u (s : String) : CpInfo := .utf8 (stringToUtf16 s)
/-- a pool by its gaps: so many unusable entries, then the entry; so many at the end -/
def gap : Nat → List CpInfo → List CpInfo
  | 0, r => r
  | n + 1, r => .unusable :: gap n r
def poolList (es : List (Nat × CpInfo)) (last : Nat) : List CpInfo := es.foldr (fun e r => gap e.1 (e.2 :: r)) (gap last [])
def pool (es : List (Nat × CpInfo)) (last : Nat) : Array CpInfo := ⟨poolList es last⟩
def fileOf (pool : Array CpInfo) (this : Nat) (attrs : Array Attribute := #[]) (ms : Array MethodInfo := #[]) (fl : Nat := 33) (sup : Nat := 0) (ifs : Array Nat := #[]) (fds : Array FieldInfo := #[]) : ClassFile where
  minorVersion := 0
  majorVersion := 65
  constantPool := pool
  accessFlags := fl
  thisClass := this
  superClass := sup
  interfaces := ifs
  fields := fds
  methods := ms
  attributes := attrs
def plain (name : String) (sup : Option ClassId) : Class where
  name := name
  kind := .ordinary
  loader := none
  accessFlags := 33
  super := sup
  interfaces := #[]
  cf := none
  fields := #[]
  methods := #[]
  instanceTypes := #[]
  staticTypes := #[]
  resolved := #[]
  callSites := []
  init := .initialized
  statics := none
  mirror := none

def pool0 : Array CpInfo := pool [(5, u "<init>"), (0, u "()V"), (1, .class_ 10), (1, u "java/lang/Object")] 113

def k0m0 : Method := { name := "<init>", desc := "()V", sig := { parameters := [], returnType := none }, accessFlags := 1, code := none }
/-- java/lang/Object -/
def k0 : Class := { plain "java/lang/Object" none with
  accessFlags := 33
  interfaces := #[]
  cf := some (fileOf pool0 8 #[] #[{ accessFlags := 1, nameIndex := 5, descriptorIndex := 6, attributes := #[] }] 33 0 #[] #[])
  fields := #[]
  methods := #[k0m0]
  instanceTypes := #[]
  staticTypes := #[]
  resolved := Array.replicate 124 none
  statics := none }

def pool1 : Array CpInfo := pool [(2, .class_ 4), (1, u "java/lang/Object"), (0, u "<init>"), (0, u "()V"), (0, .integer 536870911), (0, .methodref 9 10), (0, .class_ 11), (0, .nameAndType 12 13), (0, u "com/example/following_sibling/followingsibling/IndexesWithoutPinLaw"), (0, u "pick"), (0, u "(IIIII)[I"), (0, .methodref 15 16), (0, .class_ 17), (0, .nameAndType 18 19), (0, u "com/example/following_sibling/followingsibling/Indexes"), (0, u "without"), (0, u "([I[I)[I"), (0, .methodref 9 21), (0, .nameAndType 22 23), (0, u "same"), (0, u "([I[I)Z"), (2, u "law"), (0, u "(IIIII)Z")] 5

def k1m0 : Method := { name := "<init>", desc := "()V", sig := { parameters := [], returnType := none }, accessFlags := 2, code := none }
def k1c1 : Code := { maxStack := 7, maxLocals := 16, code := code, exceptionTable := #[], attributes := #[] }
def k1m1 : Method := { name := "law", desc := "(IIIII)Z", sig := { parameters := [.int, .int, .int, .int, .int], returnType := some .boolean }, accessFlags := 9, code := some k1c1 }
def k1c2 : Code := { maxStack := 5, maxLocals := 7, code := method_3_code, exceptionTable := #[], attributes := #[] }
def k1m2 : Method := { name := "pick", desc := "(IIIII)[I", sig := { parameters := [.int, .int, .int, .int, .int], returnType := some (.array .int) }, accessFlags := 10, code := some k1c2 }
def k1c3 : Code := { maxStack := 3, maxLocals := 2, code := method_4_code, exceptionTable := #[], attributes := #[] }
def k1m3 : Method := { name := "same", desc := "([I[I)Z", sig := { parameters := [(.array .int), (.array .int)], returnType := some .boolean }, accessFlags := 10, code := some k1c3 }
/-- com/example/following_sibling/followingsibling/IndexesWithoutPinLaw -/
def k1 : Class := { plain "com/example/following_sibling/followingsibling/IndexesWithoutPinLaw" (some 0) with
  accessFlags := 49
  interfaces := #[]
  cf := some (fileOf pool1 9 #[] #[{ accessFlags := 2, nameIndex := 5, descriptorIndex := 6, attributes := #[] }, { accessFlags := 9, nameIndex := 26, descriptorIndex := 27, attributes := #[] }, { accessFlags := 10, nameIndex := 12, descriptorIndex := 13, attributes := #[] }, { accessFlags := 10, nameIndex := 22, descriptorIndex := 23, attributes := #[] }] 49 2 #[] #[])
  fields := #[]
  methods := #[k1m0, k1m1, k1m2, k1m3]
  instanceTypes := #[]
  staticTypes := #[]
  resolved := Array.replicate 33 none
  statics := none }

def pool2 : Array CpInfo := pool [(2, .class_ 4), (1, u "java/lang/Object"), (0, u "<init>"), (0, u "()V"), (12, .class_ 20), (0, u "com/example/following_sibling/followingsibling/Indexes"), (7, u "without"), (0, u "([I[I)[I")] 7

def k2m0 : Method := { name := "<init>", desc := "()V", sig := { parameters := [], returnType := none }, accessFlags := 2, code := none }
def k2c1 : Code := { maxStack := 3, maxLocals := 9, code := prog_38_method_3_code, exceptionTable := #[], attributes := #[] }
def k2m1 : Method := { name := "without", desc := "([I[I)[I", sig := { parameters := [(.array .int), (.array .int)], returnType := some (.array .int) }, accessFlags := 8, code := some k2c1 }
/-- com/example/following_sibling/followingsibling/Indexes -/
def k2 : Class := { plain "com/example/following_sibling/followingsibling/Indexes" (some 0) with
  accessFlags := 48
  interfaces := #[]
  cf := some (fileOf pool2 19 #[] #[{ accessFlags := 2, nameIndex := 5, descriptorIndex := 6, attributes := #[] }, { accessFlags := 8, nameIndex := 28, descriptorIndex := 29, attributes := #[] }] 48 2 #[] #[])
  fields := #[]
  methods := #[k2m0, k2m1]
  instanceTypes := #[]
  staticTypes := #[]
  resolved := Array.replicate 37 none
  statics := none }

def pool3 : Array CpInfo := pool [(1, u "java/lang/Cloneable"), (0, .class_ 1), (0, u "java/lang/Object"), (0, .class_ 3)] 3

/-- java/lang/Cloneable -/
def k3 : Class := { plain "java/lang/Cloneable" (some 0) with
  accessFlags := 1537
  interfaces := #[]
  cf := some (fileOf pool3 2 #[] #[] 1537 4 #[] #[])
  fields := #[]
  methods := #[]
  instanceTypes := #[]
  staticTypes := #[]
  resolved := Array.replicate 8 none
  statics := none }

def pool4 : Array CpInfo := pool [(1, u "java/io/Serializable"), (0, .class_ 1), (0, u "java/lang/Object"), (0, .class_ 3)] 3

/-- java/io/Serializable -/
def k4 : Class := { plain "java/io/Serializable" (some 0) with
  accessFlags := 1537
  interfaces := #[]
  cf := some (fileOf pool4 2 #[] #[] 1537 4 #[] #[])
  fields := #[]
  methods := #[]
  instanceTypes := #[]
  staticTypes := #[]
  resolved := Array.replicate 8 none
  statics := none }

/-- the primitive byte -/
def k5 : Class := { plain "byte" none with kind := .primitive 'B', accessFlags := 0x411 }
/-- [B -/
def k6 : Class := { plain "[B" (some 0) with kind := .array 5 .byte, interfaces := #[3, 4], accessFlags := 1041 }

/-- the primitive int -/
def k7 : Class := { plain "int" none with kind := .primitive 'I', accessFlags := 0x411 }
/-- [I -/
def k8 : Class := { plain "[I" (some 0) with kind := .array 7 .int, interfaces := #[3, 4], accessFlags := 1041 }

def heap : Heap := #[]
def classes : Array Class := #[k0, k1, k2, k3, k4, k5, k6, k7, k8]
def interned : List (Array UInt16 × Addr) := []
def slotsUsed : Nat := 0
def theMethod : MethodId := ⟨1, 1⟩
def args0 : Array Value := #[.int 5, .int 7, .int 9, .int 3, .int 1]
def aboutOver (below : List Frame) : State where
  vm := { classes := classes, interned := interned.toArray }
  heap := heap
  slotsUsed := slotsUsed
  threads := #[{ frames := .invoking theMethod args0 :: below }]
def below0 : List Frame := [.native { method := ⟨0, 0⟩, args := #[] }]
def about1 : State := aboutOver below0
def p0 : Program := .bare "" "" ""
def e0 : Env := launch0.env 0 0 0
theorem w_frames : about1.frames = Frame.invoking theMethod args0 :: below0 := rfl
set_option maxRecDepth 65536 in
theorem w_args : argsFit about1.vm theMethod args0 = true := by decide +kernel
set_option maxRecDepth 65536 in
theorem w_heap : heapFits about1 = true := by decide +kernel
set_option maxRecDepth 65536 in
theorem w_runnable : about1.curStatus? = some .runnable := by decide +kernel
set_option maxRecDepth 65536 in
theorem w_alone : about1.alone = true := by decide +kernel
set_option maxRecDepth 65536 in
theorem w_named : about1.methodNamed? x = some theMethod := by decide +kernel
set_option maxRecDepth 65536 in
theorem w_hears : about1.hears theMethod below0 = true := by decide +kernel
set_option maxRecDepth 65536 in
theorem w_ripe : about1.ripe theMethod args0 below0 = true := by decide +kernel
theorem w_running : about1.status = .running := rfl
set_option maxRecDepth 65536 in
theorem w_room : about1.hasRoom e0.platform room_1 = true :=
  launch0.hasRoom_least _ room_1 (by decide +kernel) (by decide +kernel) (by decide +kernel) (by decide +kernel) (by decide +kernel) (by decide +kernel)
theorem allAtoms_all (ts : List Jvm.Cond) (a : Array Jvm.Value) (st : Jvm.State) : (allAtoms ts).before a st = ts.all (fun c => c.before a st) := by
  induction ts with
  | nil => rfl
  | cons c t ih =>
    show (Jvm.Cond.and c (allAtoms t)).before a st = _
    rw [Jvm.Cond.before_and, ih, List.all_cons]
def words1 : List Jvm.Cond := Jvm.Cond.code x code maxLocals ret :: tables_1
/-- a 'code' word, met by the world's own term for the bytes: nothing is compared byte by byte -/
theorem code_word {y : MethodName} {bytes : ByteArray} {mx : Nat} {rt : Option FieldType} {a : Array Value} {s : State} {m : MethodId} {meth : Method} {c : Code} (h1 : s.methodNamed? y = some m) (h2 : s.vm.method? m = some meth) (h3 : meth.code = some c) (h4 : c.code = bytes)
    (h5 : (c.maxLocals == mx && c.exceptionTable.isEmpty && decide (c.maxStack ≤ mostOperands) && decide (meth.sig.returnType = rt) && !meth.locks && decide (parseMethodDescriptor y.desc = some meth.sig)) = true) : (Jvm.Cond.code y bytes mx rt).before a s = true := by
  simp only [Bool.and_eq_true, beq_iff_eq, Bool.not_eq_true', decide_eq_true_eq] at h5
  obtain ⟨⟨⟨⟨⟨g1, g2⟩, g3⟩, g4⟩, g5⟩, g6⟩ := h5
  simp [Cond.before, Cond.holds, Cond.value, h1, h2, h3, h4, g1, g2, g3, g4, g5, g6]
def isCode : Jvm.Cond → Bool
  | .code _ _ _ _ => true
  | _ => false
theorem all_split {L : List Jvm.Cond} {P : Jvm.Cond → Bool} (h1 : L.all (fun c => isCode c || P c) = true) (h2 : ∀ c ∈ L.filter isCode, P c = true) : L.all P = true := by
  refine List.all_eq_true.mpr fun c hc => ?_
  have h := List.all_eq_true.mp h1 c hc
  rcases Bool.eq_false_or_eq_true (isCode c) with hi | hi
  · exact h2 c (List.mem_filter.mpr ⟨hc, hi⟩)
  · simpa [hi] using h
set_option maxRecDepth 65536 in
theorem w_c0 : (Jvm.Cond.code x code maxLocals ret).before args0 about1 = true := code_word (m := ⟨1, 1⟩) (meth := k1m1) (c := k1c1) (by decide +kernel) rfl rfl rfl (by decide +kernel)
set_option maxRecDepth 65536 in
theorem w_c1 : (Jvm.Cond.code ({ cls := "com/example/following_sibling/followingsibling/IndexesWithoutPinLaw", name := "pick", desc := "(IIIII)[I" } : Jvm.MethodName) method_3_code (7 : Nat) (Option.some (Jvm.ClassFile.FieldType.array Jvm.ClassFile.FieldType.int))).before args0 about1 = true := code_word (m := ⟨1, 2⟩) (meth := k1m2) (c := k1c2) (by decide +kernel) rfl rfl rfl (by decide +kernel)
set_option maxRecDepth 65536 in
theorem w_c2 : (Jvm.Cond.code ({ cls := "com/example/following_sibling/followingsibling/Indexes", name := "without", desc := "([I[I)[I" } : Jvm.MethodName) prog_38_method_3_code (9 : Nat) (Option.some (Jvm.ClassFile.FieldType.array Jvm.ClassFile.FieldType.int))).before args0 about1 = true := code_word (m := ⟨2, 1⟩) (meth := k2m1) (c := k2c1) (by decide +kernel) rfl rfl rfl (by decide +kernel)
set_option maxRecDepth 65536 in
theorem w_c3 : (Jvm.Cond.code ({ cls := "com/example/following_sibling/followingsibling/IndexesWithoutPinLaw", name := "same", desc := "([I[I)Z" } : Jvm.MethodName) method_4_code (2 : Nat) (Option.some Jvm.ClassFile.FieldType.boolean)).before args0 about1 = true := code_word (m := ⟨1, 3⟩) (meth := k1m3) (c := k1c3) (by decide +kernel) rfl rfl rfl (by decide +kernel)
def codes1 : List Jvm.Cond := [Jvm.Cond.code x code maxLocals ret, Jvm.Cond.code ({ cls := "com/example/following_sibling/followingsibling/IndexesWithoutPinLaw", name := "pick", desc := "(IIIII)[I" } : Jvm.MethodName) method_3_code (7 : Nat) (Option.some (Jvm.ClassFile.FieldType.array Jvm.ClassFile.FieldType.int)), Jvm.Cond.code ({ cls := "com/example/following_sibling/followingsibling/Indexes", name := "without", desc := "([I[I)[I" } : Jvm.MethodName) prog_38_method_3_code (9 : Nat) (Option.some (Jvm.ClassFile.FieldType.array Jvm.ClassFile.FieldType.int)), Jvm.Cond.code ({ cls := "com/example/following_sibling/followingsibling/IndexesWithoutPinLaw", name := "same", desc := "([I[I)Z" } : Jvm.MethodName) method_4_code (2 : Nat) (Option.some Jvm.ClassFile.FieldType.boolean)]
set_option maxRecDepth 65536 in
theorem codes_eq : words1.filter isCode = codes1 := rfl
theorem w_codes : ∀ c ∈ words1.filter isCode, c.before args0 about1 = true := by
  rw [codes_eq]
  intro c hc
  simp only [codes1, List.mem_cons, List.not_mem_nil, or_false] at hc
  rcases hc with rfl | rfl | rfl | rfl
  · exact w_c0
  · exact w_c1
  · exact w_c2
  · exact w_c3
set_option maxRecDepth 65536 in
theorem w_t1 : words1.all (fun c => isCode c || c.before args0 about1) = true := by decide +kernel
theorem w_tables : (allAtoms (Jvm.Cond.code x code maxLocals ret :: tables_1)).before args0 about1 = true := by
  rw [allAtoms_all]
  show words1.all (fun c => c.before args0 about1) = true
  refine all_split ?_ w_codes
  rw [w_t1]
set_option maxRecDepth 65536 in
theorem w_case : (Jvm.Cond.and given_1 narrow_1).before args0 about1 = true := by decide +kernel
theorem w_applies : (headSpec (Jvm.Cond.code x code maxLocals ret :: tables_1) room_1).applies x e0.platform about1 = true :=
  (Spec.applies_iff w_frames).mpr ⟨w_running, w_runnable, w_alone, w_named, w_hears, w_ripe, w_room, w_tables⟩
theorem atStart : AtStart classFile x code maxLocals ret World_1 tables_1 room_1 Calls_1 rest_1 Pre_1 launch0 p0 e0 about1 theMethod args0 below0 :=
  ⟨lists_1, trivial, launch0.admits_env _ _ _, launch0.least_env, fairChoices_fair.cas, fairChoices_fair.clock, w_frames, w_args, w_heap, w_applies, trivial, trivial, w_case⟩
end start1
theorem witness_1 : WitnessClaimed_1 := ⟨start1.p0, start1.e0, start1.about1, start1.theMethod, start1.args0, start1.below0, start1.atStart⟩
end Jvm.Pilot.@@N@@
