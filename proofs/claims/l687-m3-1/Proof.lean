import JvmDerived
import JvmDerived.Pilot.@@N@@Statement
import JvmDerived.Pilot.@@N@@Code
set_option linter.unusedVariables false
set_option linter.unusedSimpArgs false
namespace Jvm.RoadKit
open Sem ClassFile Op Lib Jvm.Stand Jvm.Free Jvm.LawKit
section New
variable {p : Program} {l : Launch} {e : Env} {R : Room} {s : State} {m : MethodId} {args : Array Value} {below : List Frame} {meth : Method} {c : Code} {T : State} {locs : List Loc} {cells slots : Nat}
theorem retI (X : Stand p l e R s m args below meth c T locs cells slots) (hx : p.tables.exec = Jvm.exec) {pc : Nat} {Ls : Array Slot} {z : Int32} {rest : List Value} (hret : meth.sig.returnType = some .int) (hd : decode c.code pc = .ok (.ireturn, 1)) {fs : List Frame}
    (hl : ∀ (f : JFrame) (acts : List Action), f.method = m → f.locked = none → f.entered = [] → (doReturn e (T.setTop f) acts (some (.int z))).1 = T.setFrames fs) : Steps p.tables e below (T.setTop (mkF m pc Ls (.int z :: rest))) (T.setFrames fs) := by
  have hm' : T.vm.method? m = some meth := X.method'
  have hn : narrow .int (.int z) = .int z := rfl
  show Steps p.tables e below (T.setTop { method := m, pc := pc, locals := Ls, stack := _ :: rest, locked := none }) _
  jvm_step X.here [X.here.top, hx, hd, hm', hret, hn]
  first | (intro acts; rw [hl _ acts rfl rfl rfl]) | rw [hl _ _ rfl rfl rfl]
  exact Steps.refl _
end New
end Jvm.RoadKit
namespace Jvm.Pilot.@@N@@
open Jvm Jvm.ClassFile Sem Op Lib Jvm.Free Jvm.Stand Jvm.LawKit Jvm.RoadKit Bundle Jvm.Pilot.@@N@@.Jvm.D
section Own
variable {p : Program} {l : Launch} {e : Env} {R : Room} {s : State} {m : MethodId} {args : Array Value} {below : List Frame} {meth : Method} {c : Code} {T : State} {Z : State} {h : Heap} {n0 kc ks cells slots ml pc pc' pt : Nat} {Q : Option Value → Heap → Prop} {bc : ByteArray} {y : MethodName} {rt : Option FieldType} {L L' : Array Slot} {S : List Value} {a0 : Array Value}
def oG (p : Program) (e : Env) (below : List Frame) (s : State) (n0 kc ks : Nat) (Q : Option Value → Heap → Prop) (U : State) : Prop :=
  ∃ s₂ o, Steps p.tables e below U s₂ ∧ s₂.status = .running ∧ Ended s₂ below o ∧ ∃ v L, o = .returned v ∧ (Q v s₂.heap ∧ Fr n0 L) ∧ FrameEnd s o s₂ L kc ks
def oH (p : Program) (l : Launch) (e : Env) (R : Room) (s : State) (m : MethodId) (args : Array Value) (below : List Frame) (meth : Method) (c : Code) (bc : ByteArray) (ml : Nat) (y : MethodName) (rt : Option FieldType) (Z : State) (n0 : Nat) (T : State) (h : Heap) (cells slots : Nat) : Prop :=
  ∃ locs, Stand p l e R s m args below meth c T locs cells slots ∧ T.heap = h ∧ Fr n0 locs ∧ p.tables.exec = Jvm.exec ∧ c.code = bc ∧ c.maxLocals = ml ∧ Z.Warmed39 s.vm ∧ s.vm.findClass y.cls = some m.cls ∧ meth.name = y.name ∧ meth.sig.returnType = rt ∧ meth.locks = false ∧ n0 ≤ s.heap.size
theorem oG.go {U U' : State} (f : ∀ t, Steps p.tables e below U' t → Steps p.tables e below U t) (k : oG p e below s n0 kc ks Q U') : oG p e below s n0 kc ks Q U := by
  obtain ⟨s2, o, h1, r⟩ := k
  exact ⟨s2, o, f _ h1, r⟩
theorem oG.mono {U : State} {Q' : Option Value → Heap → Prop} (k : oG p e below s n0 kc ks Q' U) (f : ∀ v h, Q' v h → Q v h) : oG p e below s n0 kc ks Q U := by
  obtain ⟨s2, o, h1, h2, h3, v, L, h4, ⟨h5, h6⟩, h7⟩ := k
  exact ⟨s2, o, h1, h2, h3, v, L, h4, ⟨f _ _ h5, h6⟩, h7⟩
theorem oH.le (H : oH p l e R s m args below meth c bc ml y rt Z n0 T h cells slots) : n0 ≤ h.size := by
  obtain ⟨locs, X, eT, N, -, -, -, -, -, -, -, -, hn⟩ := H
  have q : s.heap.size ≤ T.heap.size := X.same.2.1
  rw [← eT]; exact Nat.le_trans hn q
theorem oH.more {cells' slots' : Nat} (H : oH p l e R s m args below meth c bc ml y rt Z n0 T h cells slots) (hc : cells ≤ cells') (hs : slots ≤ slots') : oH p l e R s m args below meth c bc ml y rt Z n0 T h cells' slots' := by
  obtain ⟨locs, X, r⟩ := H
  exact ⟨locs, X.more hc hs, r⟩
/-- a method's contract: called with these arguments at the heap h0 it comes back with Q, within the room -/
def oC (l : Launch) (Z : State) (n0 : Nat) (y : MethodName) (bc : ByteArray) (ml : Nat) (rt : Option FieldType) (rm : Room) (kc ks : Nat) (as' : Array Value) (h0 : Heap) (Q : Option Value → Heap → Prop) : Prop :=
  ∀ ws : List Jvm.Cond, MetFree l y (head1 (Jvm.Cond.code y bc ml rt :: ws) rm) (fun a U => a = as' ∧ Z.Warmed39 U.vm ∧ U.heap = h0) (fun _ _ _ _ _ => True) (fun _ U o U' => ∃ v L, o = .returned v ∧ (Q v U'.heap ∧ Fr n0 L) ∧ FrameEnd U o U' L kc ks)
theorem oC.of {rm : Room} {as' : Array Value} {h0 : Heap} (hpl : plainFor y = true) (hn : n0 ≤ h0.size) (hef : ∀ m, entryFrame m as' ml = mkF m 0 L [])
    (body : ∀ (p : Program) (e : Env) (s : State) (m : MethodId) (below : List Frame) (meth : Method) (c : Code) (T : State), oH p l e rm s m as' below meth c bc ml y rt Z n0 T h0 0 0 → oG p e below s n0 kc ks Q (T.setTop (mkF m 0 L []))) : oC l Z n0 y bc ml rt rm kc ks as' h0 Q := by
  intro ws
  refine MetFree.of_bodySF hpl hisR ?_
  intro p e s m args below meth c s₁ Bd hml0 hP hK
  obtain ⟨rfl, hZ, hh⟩ := hP
  have X0 : Stand p l e rm s m args below meth c s₁ [] 0 0 := Stand.of_body Bd
  have e0 : s₁.heap = h0 := by rw [← hh, Bd.state]; rfl
  have k := body p e s m below meth c s₁ ⟨[], X0, e0, Fr.nil n0, Bd.exec, Bd.bytes, hml0, hZ, findClass_of_methodNamed Bd.named, (name_of_methodNamed Bd.named Bd.method).1, Bd.returns, Bd.notSynchronized, by rw [hh]; exact hn⟩
  rw [hef m]; exact k
theorem oC.mono {rm : Room} {as' : Array Value} {h0 : Heap} {Q' : Option Value → Heap → Prop} (k : oC l Z n0 y bc ml rt rm kc ks as' h0 Q') (f : ∀ v h, Q' v h → Q v h) : oC l Z n0 y bc ml rt rm kc ks as' h0 Q := by
  intro ws p e h1 h2 h3 s m args below h4 h5 h6 h7
  obtain ⟨n, o, a1, a2, a3, v, L, a4, ⟨a5, a6⟩, a7⟩ := k ws p e h1 h2 h3 s m args below h4 h5 h6 h7
  exact ⟨n, o, a1, a2, a3, v, L, a4, ⟨f _ _ a5, a6⟩, a7⟩
theorem o_aloadN (H : oH p l e R s m args below meth c bc ml y rt Z n0 T h cells slots) {k : Fin 4} {v : Value} (hl : L[k.val]? = some (.val v)) (hv : v.isRef = true) (hd : decode bc pc = .ok (.aload_n k, 1)) (hp : pc + 1 = pc') (k : oG p e below s n0 kc ks Q (T.setTop (mkF m pc' L (v :: S)))) : oG p e below s n0 kc ks Q (T.setTop (mkF m pc L S)) := by
  obtain ⟨locs, X, eT, N, hx, hby, hml, hZ, hown, hnm, hret, hlk, hn⟩ := H
  subst hp
  exact oG.go (fun t hr => XS.aloadN X.here hx rfl (hb hby hd) hl hv hr) k
theorem o_iloadN (H : oH p l e R s m args below meth c bc ml y rt Z n0 T h cells slots) {k : Fin 4} {v : Int32} (hl : L[k.val]? = some (.val (.int v))) (hd : decode bc pc = .ok (.iload_n k, 1)) (hp : pc + 1 = pc') (k : oG p e below s n0 kc ks Q (T.setTop (mkF m pc' L (.int v :: S)))) : oG p e below s n0 kc ks Q (T.setTop (mkF m pc L S)) := by
  obtain ⟨locs, X, eT, N, hx, hby, hml, hZ, hown, hnm, hret, hlk, hn⟩ := H
  subst hp
  exact oG.go (fun t hr => XS.iloadN X.here hx rfl (hb hby hd) hl hr) k
theorem o_lloadN (H : oH p l e R s m args below meth c bc ml y rt Z n0 T h cells slots) {k : Fin 4} {v : Int64} (hl : L[k.val]? = some (.val (.long v))) (hd : decode bc pc = .ok (.lload_n k, 1)) (hp : pc + 1 = pc') (k : oG p e below s n0 kc ks Q (T.setTop (mkF m pc' L (.long v :: S)))) : oG p e below s n0 kc ks Q (T.setTop (mkF m pc L S)) := by
  obtain ⟨locs, X, eT, N, hx, hby, hml, hZ, hown, hnm, hret, hlk, hn⟩ := H
  subst hp
  exact oG.go (fun t hr => XT.lloadN X.here hx rfl (hb hby hd) hl hr) k
theorem o_astoreN (H : oH p l e R s m args below meth c bc ml y rt Z n0 T h cells slots) {k : Fin 4} {v : Value} (hl : storeLocals L k.val v = some L') (hv : v.isRef = true) (hd : decode bc pc = .ok (.astore_n k, 1)) (hp : pc + 1 = pc') (k : oG p e below s n0 kc ks Q (T.setTop (mkF m pc' L' S))) : oG p e below s n0 kc ks Q (T.setTop (mkF m pc L (v :: S))) := by
  obtain ⟨locs, X, eT, N, hx, hby, hml, hZ, hown, hnm, hret, hlk, hn⟩ := H
  subst hp
  exact oG.go (fun t hr => XS.astoreN X.here hx rfl (hb hby hd) rfl hv hl hr) k
theorem o_istoreN (H : oH p l e R s m args below meth c bc ml y rt Z n0 T h cells slots) {k : Fin 4} {v : Int32} (hl : storeLocals L k.val (.int v) = some L') (hd : decode bc pc = .ok (.istore_n k, 1)) (hp : pc + 1 = pc') (k : oG p e below s n0 kc ks Q (T.setTop (mkF m pc' L' S))) : oG p e below s n0 kc ks Q (T.setTop (mkF m pc L (.int v :: S))) := by
  obtain ⟨locs, X, eT, N, hx, hby, hml, hZ, hown, hnm, hret, hlk, hn⟩ := H
  subst hp
  exact oG.go (fun t hr => XS.istoreN X.here hx rfl (hb hby hd) rfl hl hr) k
theorem o_lstoreN (H : oH p l e R s m args below meth c bc ml y rt Z n0 T h cells slots) {k : Fin 4} {v : Int64} (hl : storeLocals L k.val (.long v) = some L') (hd : decode bc pc = .ok (.lstore_n k, 1)) (hp : pc + 1 = pc') (k : oG p e below s n0 kc ks Q (T.setTop (mkF m pc' L' S))) : oG p e below s n0 kc ks Q (T.setTop (mkF m pc L (.long v :: S))) := by
  obtain ⟨locs, X, eT, N, hx, hby, hml, hZ, hown, hnm, hret, hlk, hn⟩ := H
  subst hp
  exact oG.go (fun t hr => XT.lstoreN X.here hx rfl (hb hby hd) rfl hl hr) k
theorem o_aload (H : oH p l e R s m args below meth c bc ml y rt Z n0 T h cells slots) {k : Nat} {v : Value} (hl : L[k]? = some (.val v)) (hv : v.isRef = true) (hd : decode bc pc = .ok (.aload k, 2)) (hp : pc + 2 = pc') (k : oG p e below s n0 kc ks Q (T.setTop (mkF m pc' L (v :: S)))) : oG p e below s n0 kc ks Q (T.setTop (mkF m pc L S)) := by
  obtain ⟨locs, X, eT, N, hx, hby, hml, hZ, hown, hnm, hret, hlk, hn⟩ := H
  subst hp
  exact oG.go (fun t hr => XS.aload X.here hx rfl (hb hby hd) hl hv hr) k
theorem o_iload (H : oH p l e R s m args below meth c bc ml y rt Z n0 T h cells slots) {k : Nat} {v : Int32} (hl : L[k]? = some (.val (.int v))) (hd : decode bc pc = .ok (.iload k, 2)) (hp : pc + 2 = pc') (k : oG p e below s n0 kc ks Q (T.setTop (mkF m pc' L (.int v :: S)))) : oG p e below s n0 kc ks Q (T.setTop (mkF m pc L S)) := by
  obtain ⟨locs, X, eT, N, hx, hby, hml, hZ, hown, hnm, hret, hlk, hn⟩ := H
  subst hp
  exact oG.go (fun t hr => XS.iload X.here hx rfl (hb hby hd) hl hr) k
theorem o_lload (H : oH p l e R s m args below meth c bc ml y rt Z n0 T h cells slots) {k : Nat} {v : Int64} (hl : L[k]? = some (.val (.long v))) (hd : decode bc pc = .ok (.lload k, 2)) (hp : pc + 2 = pc') (k : oG p e below s n0 kc ks Q (T.setTop (mkF m pc' L (.long v :: S)))) : oG p e below s n0 kc ks Q (T.setTop (mkF m pc L S)) := by
  obtain ⟨locs, X, eT, N, hx, hby, hml, hZ, hown, hnm, hret, hlk, hn⟩ := H
  subst hp
  exact oG.go (fun t hr => XT.lload X.here hx rfl (hb hby hd) hl hr) k
theorem o_astore (H : oH p l e R s m args below meth c bc ml y rt Z n0 T h cells slots) {k : Nat} {v : Value} (hl : storeLocals L k v = some L') (hv : v.isRef = true) (hd : decode bc pc = .ok (.astore k, 2)) (hp : pc + 2 = pc') (k : oG p e below s n0 kc ks Q (T.setTop (mkF m pc' L' S))) : oG p e below s n0 kc ks Q (T.setTop (mkF m pc L (v :: S))) := by
  obtain ⟨locs, X, eT, N, hx, hby, hml, hZ, hown, hnm, hret, hlk, hn⟩ := H
  subst hp
  exact oG.go (fun t hr => XS.astore X.here hx rfl (hb hby hd) rfl hv hl hr) k
theorem o_istore (H : oH p l e R s m args below meth c bc ml y rt Z n0 T h cells slots) {k : Nat} {v : Int32} (hl : storeLocals L k (.int v) = some L') (hd : decode bc pc = .ok (.istore k, 2)) (hp : pc + 2 = pc') (k : oG p e below s n0 kc ks Q (T.setTop (mkF m pc' L' S))) : oG p e below s n0 kc ks Q (T.setTop (mkF m pc L (.int v :: S))) := by
  obtain ⟨locs, X, eT, N, hx, hby, hml, hZ, hown, hnm, hret, hlk, hn⟩ := H
  subst hp
  exact oG.go (fun t hr => XS.istore X.here hx rfl (hb hby hd) rfl hl hr) k
theorem o_lstore (H : oH p l e R s m args below meth c bc ml y rt Z n0 T h cells slots) {k : Nat} {v : Int64} (hl : storeLocals L k (.long v) = some L') (hd : decode bc pc = .ok (.lstore k, 2)) (hp : pc + 2 = pc') (k : oG p e below s n0 kc ks Q (T.setTop (mkF m pc' L' S))) : oG p e below s n0 kc ks Q (T.setTop (mkF m pc L (.long v :: S))) := by
  obtain ⟨locs, X, eT, N, hx, hby, hml, hZ, hown, hnm, hret, hlk, hn⟩ := H
  subst hp
  exact oG.go (fun t hr => XT.lstore X.here hx rfl (hb hby hd) rfl hl hr) k
theorem o_iconst (H : oH p l e R s m args below meth c bc ml y rt Z n0 T h cells slots) {i : Int} (v : Int32) (hv : Int32.ofInt i = v) (hd : decode bc pc = .ok (.iconst i, 1)) (hp : pc + 1 = pc') (k : oG p e below s n0 kc ks Q (T.setTop (mkF m pc' L (.int v :: S)))) : oG p e below s n0 kc ks Q (T.setTop (mkF m pc L S)) := by
  obtain ⟨locs, X, eT, N, hx, hby, hml, hZ, hown, hnm, hret, hlk, hn⟩ := H
  subst hp
  exact oG.go (fun t hr => XT.iconstV X.here hx rfl v (hb hby hd) hv hr) k
theorem o_bipush (H : oH p l e R s m args below meth c bc ml y rt Z n0 T h cells slots) {i : Int} (v : Int32) (hv : (Int8.ofInt i).toInt32 = v) (hd : decode bc pc = .ok (.bipush i, 2)) (hp : pc + 2 = pc') (k : oG p e below s n0 kc ks Q (T.setTop (mkF m pc' L (.int v :: S)))) : oG p e below s n0 kc ks Q (T.setTop (mkF m pc L S)) := by
  obtain ⟨locs, X, eT, N, hx, hby, hml, hZ, hown, hnm, hret, hlk, hn⟩ := H
  subst hp
  exact oG.go (fun t hr => XT.bipushV X.here hx rfl v (hb hby hd) hv hr) k
theorem o_sipush (H : oH p l e R s m args below meth c bc ml y rt Z n0 T h cells slots) {i : Int} (v : Int32) (hv : (Int16.ofInt i).toInt32 = v) (hd : decode bc pc = .ok (.sipush i, 3)) (hp : pc + 3 = pc') (k : oG p e below s n0 kc ks Q (T.setTop (mkF m pc' L (.int v :: S)))) : oG p e below s n0 kc ks Q (T.setTop (mkF m pc L S)) := by
  obtain ⟨locs, X, eT, N, hx, hby, hml, hZ, hown, hnm, hret, hlk, hn⟩ := H
  subst hp
  exact oG.go (fun t hr => XT.sipushV X.here hx rfl v (hb hby hd) hv hr) k
theorem o_lconst (H : oH p l e R s m args below meth c bc ml y rt Z n0 T h cells slots) {i : Fin 2} (v : Int64) (hv : Int64.ofNat i = v) (hd : decode bc pc = .ok (.lconst i, 1)) (hp : pc + 1 = pc') (k : oG p e below s n0 kc ks Q (T.setTop (mkF m pc' L (.long v :: S)))) : oG p e below s n0 kc ks Q (T.setTop (mkF m pc L S)) := by
  obtain ⟨locs, X, eT, N, hx, hby, hml, hZ, hown, hnm, hret, hlk, hn⟩ := H
  subst hp
  exact oG.go (fun t hr => XT.lconstV X.here hx rfl v (hb hby hd) hv hr) k
theorem o_aconst_null (H : oH p l e R s m args below meth c bc ml y rt Z n0 T h cells slots)   (hd : decode bc pc = .ok (.aconst_null, 1)) (hp : pc + 1 = pc') (k : oG p e below s n0 kc ks Q (T.setTop (mkF m pc' L (.null :: S)))) : oG p e below s n0 kc ks Q (T.setTop (mkF m pc L S)) := by
  obtain ⟨locs, X, eT, N, hx, hby, hml, hZ, hown, hnm, hret, hlk, hn⟩ := H
  subst hp
  exact oG.go (fun t hr => XS.aconstNull X.here hx rfl (hb hby hd) hr) k
theorem o_iadd (H : oH p l e R s m args below meth c bc ml y rt Z n0 T h cells slots) {x z : Int32}  (hd : decode bc pc = .ok (.iadd, 1)) (hp : pc + 1 = pc') (k : oG p e below s n0 kc ks Q (T.setTop (mkF m pc' L (.int (x + z) :: S)))) : oG p e below s n0 kc ks Q (T.setTop (mkF m pc L (.int z :: .int x :: S))) := by
  obtain ⟨locs, X, eT, N, hx, hby, hml, hZ, hown, hnm, hret, hlk, hn⟩ := H
  subst hp
  exact oG.go (fun t hr => XS.iadd X.here hx rfl (hb hby hd) rfl hr) k
theorem o_isub (H : oH p l e R s m args below meth c bc ml y rt Z n0 T h cells slots) {x z : Int32}  (hd : decode bc pc = .ok (.isub, 1)) (hp : pc + 1 = pc') (k : oG p e below s n0 kc ks Q (T.setTop (mkF m pc' L (.int (x - z) :: S)))) : oG p e below s n0 kc ks Q (T.setTop (mkF m pc L (.int z :: .int x :: S))) := by
  obtain ⟨locs, X, eT, N, hx, hby, hml, hZ, hown, hnm, hret, hlk, hn⟩ := H
  subst hp
  exact oG.go (fun t hr => XS.isub X.here hx rfl (hb hby hd) rfl hr) k
theorem o_imul (H : oH p l e R s m args below meth c bc ml y rt Z n0 T h cells slots) {x z : Int32}  (hd : decode bc pc = .ok (.imul, 1)) (hp : pc + 1 = pc') (k : oG p e below s n0 kc ks Q (T.setTop (mkF m pc' L (.int (x * z) :: S)))) : oG p e below s n0 kc ks Q (T.setTop (mkF m pc L (.int z :: .int x :: S))) := by
  obtain ⟨locs, X, eT, N, hx, hby, hml, hZ, hown, hnm, hret, hlk, hn⟩ := H
  subst hp
  exact oG.go (fun t hr => XS.imul X.here hx rfl (hb hby hd) rfl hr) k
theorem o_iand (H : oH p l e R s m args below meth c bc ml y rt Z n0 T h cells slots) {x z : Int32}  (hd : decode bc pc = .ok (.iand, 1)) (hp : pc + 1 = pc') (k : oG p e below s n0 kc ks Q (T.setTop (mkF m pc' L (.int (x &&& z) :: S)))) : oG p e below s n0 kc ks Q (T.setTop (mkF m pc L (.int z :: .int x :: S))) := by
  obtain ⟨locs, X, eT, N, hx, hby, hml, hZ, hown, hnm, hret, hlk, hn⟩ := H
  subst hp
  exact oG.go (fun t hr => XS.iand X.here hx rfl (hb hby hd) rfl hr) k
theorem o_ior (H : oH p l e R s m args below meth c bc ml y rt Z n0 T h cells slots) {x z : Int32}  (hd : decode bc pc = .ok (.ior, 1)) (hp : pc + 1 = pc') (k : oG p e below s n0 kc ks Q (T.setTop (mkF m pc' L (.int (x ||| z) :: S)))) : oG p e below s n0 kc ks Q (T.setTop (mkF m pc L (.int z :: .int x :: S))) := by
  obtain ⟨locs, X, eT, N, hx, hby, hml, hZ, hown, hnm, hret, hlk, hn⟩ := H
  subst hp
  exact oG.go (fun t hr => XT.ior X.here hx rfl (hb hby hd) rfl hr) k
theorem o_ixor (H : oH p l e R s m args below meth c bc ml y rt Z n0 T h cells slots) {x z : Int32}  (hd : decode bc pc = .ok (.ixor, 1)) (hp : pc + 1 = pc') (k : oG p e below s n0 kc ks Q (T.setTop (mkF m pc' L (.int (x ^^^ z) :: S)))) : oG p e below s n0 kc ks Q (T.setTop (mkF m pc L (.int z :: .int x :: S))) := by
  obtain ⟨locs, X, eT, N, hx, hby, hml, hZ, hown, hnm, hret, hlk, hn⟩ := H
  subst hp
  exact oG.go (fun t hr => XT.ixor X.here hx rfl (hb hby hd) rfl hr) k
theorem o_ishl (H : oH p l e R s m args below meth c bc ml y rt Z n0 T h cells slots) {x z : Int32}  (hd : decode bc pc = .ok (.ishl, 1)) (hp : pc + 1 = pc') (k : oG p e below s n0 kc ks Q (T.setTop (mkF m pc' L (.int (x <<< (z &&& 31)) :: S)))) : oG p e below s n0 kc ks Q (T.setTop (mkF m pc L (.int z :: .int x :: S))) := by
  obtain ⟨locs, X, eT, N, hx, hby, hml, hZ, hown, hnm, hret, hlk, hn⟩ := H
  subst hp
  exact oG.go (fun t hr => XT.ishl X.here hx rfl (hb hby hd) rfl hr) k
theorem o_ishr (H : oH p l e R s m args below meth c bc ml y rt Z n0 T h cells slots) {x z : Int32}  (hd : decode bc pc = .ok (.ishr, 1)) (hp : pc + 1 = pc') (k : oG p e below s n0 kc ks Q (T.setTop (mkF m pc' L (.int (x >>> (z &&& 31)) :: S)))) : oG p e below s n0 kc ks Q (T.setTop (mkF m pc L (.int z :: .int x :: S))) := by
  obtain ⟨locs, X, eT, N, hx, hby, hml, hZ, hown, hnm, hret, hlk, hn⟩ := H
  subst hp
  exact oG.go (fun t hr => XT.ishr X.here hx rfl (hb hby hd) rfl hr) k
theorem o_iushr (H : oH p l e R s m args below meth c bc ml y rt Z n0 T h cells slots) {x z : Int32}  (hd : decode bc pc = .ok (.iushr, 1)) (hp : pc + 1 = pc') (k : oG p e below s n0 kc ks Q (T.setTop (mkF m pc' L (.int (XT.ushr x z) :: S)))) : oG p e below s n0 kc ks Q (T.setTop (mkF m pc L (.int z :: .int x :: S))) := by
  obtain ⟨locs, X, eT, N, hx, hby, hml, hZ, hown, hnm, hret, hlk, hn⟩ := H
  subst hp
  exact oG.go (fun t hr => XT.iushr X.here hx rfl (hb hby hd) rfl hr) k
theorem o_ladd (H : oH p l e R s m args below meth c bc ml y rt Z n0 T h cells slots) {x z : Int64}  (hd : decode bc pc = .ok (.ladd, 1)) (hp : pc + 1 = pc') (k : oG p e below s n0 kc ks Q (T.setTop (mkF m pc' L (.long (x + z) :: S)))) : oG p e below s n0 kc ks Q (T.setTop (mkF m pc L (.long z :: .long x :: S))) := by
  obtain ⟨locs, X, eT, N, hx, hby, hml, hZ, hown, hnm, hret, hlk, hn⟩ := H
  subst hp
  exact oG.go (fun t hr => XT.ladd X.here hx rfl (hb hby hd) rfl hr) k
theorem o_lsub (H : oH p l e R s m args below meth c bc ml y rt Z n0 T h cells slots) {x z : Int64}  (hd : decode bc pc = .ok (.lsub, 1)) (hp : pc + 1 = pc') (k : oG p e below s n0 kc ks Q (T.setTop (mkF m pc' L (.long (x - z) :: S)))) : oG p e below s n0 kc ks Q (T.setTop (mkF m pc L (.long z :: .long x :: S))) := by
  obtain ⟨locs, X, eT, N, hx, hby, hml, hZ, hown, hnm, hret, hlk, hn⟩ := H
  subst hp
  exact oG.go (fun t hr => XT.lsub X.here hx rfl (hb hby hd) rfl hr) k
theorem o_lmul (H : oH p l e R s m args below meth c bc ml y rt Z n0 T h cells slots) {x z : Int64}  (hd : decode bc pc = .ok (.lmul, 1)) (hp : pc + 1 = pc') (k : oG p e below s n0 kc ks Q (T.setTop (mkF m pc' L (.long (x * z) :: S)))) : oG p e below s n0 kc ks Q (T.setTop (mkF m pc L (.long z :: .long x :: S))) := by
  obtain ⟨locs, X, eT, N, hx, hby, hml, hZ, hown, hnm, hret, hlk, hn⟩ := H
  subst hp
  exact oG.go (fun t hr => XT.lmul X.here hx rfl (hb hby hd) rfl hr) k
theorem o_land (H : oH p l e R s m args below meth c bc ml y rt Z n0 T h cells slots) {x z : Int64}  (hd : decode bc pc = .ok (.land, 1)) (hp : pc + 1 = pc') (k : oG p e below s n0 kc ks Q (T.setTop (mkF m pc' L (.long (x &&& z) :: S)))) : oG p e below s n0 kc ks Q (T.setTop (mkF m pc L (.long z :: .long x :: S))) := by
  obtain ⟨locs, X, eT, N, hx, hby, hml, hZ, hown, hnm, hret, hlk, hn⟩ := H
  subst hp
  exact oG.go (fun t hr => XT.land X.here hx rfl (hb hby hd) rfl hr) k
theorem o_lor (H : oH p l e R s m args below meth c bc ml y rt Z n0 T h cells slots) {x z : Int64}  (hd : decode bc pc = .ok (.lor, 1)) (hp : pc + 1 = pc') (k : oG p e below s n0 kc ks Q (T.setTop (mkF m pc' L (.long (x ||| z) :: S)))) : oG p e below s n0 kc ks Q (T.setTop (mkF m pc L (.long z :: .long x :: S))) := by
  obtain ⟨locs, X, eT, N, hx, hby, hml, hZ, hown, hnm, hret, hlk, hn⟩ := H
  subst hp
  exact oG.go (fun t hr => XT.lor X.here hx rfl (hb hby hd) rfl hr) k
theorem o_lxor (H : oH p l e R s m args below meth c bc ml y rt Z n0 T h cells slots) {x z : Int64}  (hd : decode bc pc = .ok (.lxor, 1)) (hp : pc + 1 = pc') (k : oG p e below s n0 kc ks Q (T.setTop (mkF m pc' L (.long (x ^^^ z) :: S)))) : oG p e below s n0 kc ks Q (T.setTop (mkF m pc L (.long z :: .long x :: S))) := by
  obtain ⟨locs, X, eT, N, hx, hby, hml, hZ, hown, hnm, hret, hlk, hn⟩ := H
  subst hp
  exact oG.go (fun t hr => XT.lxor X.here hx rfl (hb hby hd) rfl hr) k
theorem o_lcmp (H : oH p l e R s m args below meth c bc ml y rt Z n0 T h cells slots) {x z : Int64}  (hd : decode bc pc = .ok (.lcmp, 1)) (hp : pc + 1 = pc') (k : oG p e below s n0 kc ks Q (T.setTop (mkF m pc' L (.int (XT.cmpL x z) :: S)))) : oG p e below s n0 kc ks Q (T.setTop (mkF m pc L (.long z :: .long x :: S))) := by
  obtain ⟨locs, X, eT, N, hx, hby, hml, hZ, hown, hnm, hret, hlk, hn⟩ := H
  subst hp
  exact oG.go (fun t hr => XT.lcmp X.here hx rfl (hb hby hd) rfl hr) k
theorem o_lshl (H : oH p l e R s m args below meth c bc ml y rt Z n0 T h cells slots) {x : Int64} {z : Int32}  (hd : decode bc pc = .ok (.lshl, 1)) (hp : pc + 1 = pc') (k : oG p e below s n0 kc ks Q (T.setTop (mkF m pc' L (.long (x <<< (z.toInt64 &&& 63)) :: S)))) : oG p e below s n0 kc ks Q (T.setTop (mkF m pc L (.int z :: .long x :: S))) := by
  obtain ⟨locs, X, eT, N, hx, hby, hml, hZ, hown, hnm, hret, hlk, hn⟩ := H
  subst hp
  exact oG.go (fun t hr => XT.lshl X.here hx rfl (hb hby hd) rfl hr) k
theorem o_lshr (H : oH p l e R s m args below meth c bc ml y rt Z n0 T h cells slots) {x : Int64} {z : Int32}  (hd : decode bc pc = .ok (.lshr, 1)) (hp : pc + 1 = pc') (k : oG p e below s n0 kc ks Q (T.setTop (mkF m pc' L (.long (x >>> (z.toInt64 &&& 63)) :: S)))) : oG p e below s n0 kc ks Q (T.setTop (mkF m pc L (.int z :: .long x :: S))) := by
  obtain ⟨locs, X, eT, N, hx, hby, hml, hZ, hown, hnm, hret, hlk, hn⟩ := H
  subst hp
  exact oG.go (fun t hr => XT.lshr X.here hx rfl (hb hby hd) rfl hr) k
theorem o_lushr (H : oH p l e R s m args below meth c bc ml y rt Z n0 T h cells slots) {x : Int64} {z : Int32}  (hd : decode bc pc = .ok (.lushr, 1)) (hp : pc + 1 = pc') (k : oG p e below s n0 kc ks Q (T.setTop (mkF m pc' L (.long (XT.ushrL x z) :: S)))) : oG p e below s n0 kc ks Q (T.setTop (mkF m pc L (.int z :: .long x :: S))) := by
  obtain ⟨locs, X, eT, N, hx, hby, hml, hZ, hown, hnm, hret, hlk, hn⟩ := H
  subst hp
  exact oG.go (fun t hr => XT.lushr X.here hx rfl (hb hby hd) rfl hr) k
theorem o_idiv (H : oH p l e R s m args below meth c bc ml y rt Z n0 T h cells slots) {x z : Int32} (hz : z ≠ 0) (hd : decode bc pc = .ok (.idiv, 1)) (hp : pc + 1 = pc') (k : oG p e below s n0 kc ks Q (T.setTop (mkF m pc' L (.int (x / z) :: S)))) : oG p e below s n0 kc ks Q (T.setTop (mkF m pc L (.int z :: .int x :: S))) := by
  obtain ⟨locs, X, eT, N, hx, hby, hml, hZ, hown, hnm, hret, hlk, hn⟩ := H
  subst hp
  exact oG.go (fun t hr => XS.idiv X.here hx rfl (hb hby hd) rfl hz hr) k
theorem o_irem (H : oH p l e R s m args below meth c bc ml y rt Z n0 T h cells slots) {x z : Int32} (hz : z ≠ 0) (hd : decode bc pc = .ok (.irem, 1)) (hp : pc + 1 = pc') (k : oG p e below s n0 kc ks Q (T.setTop (mkF m pc' L (.int (x % z) :: S)))) : oG p e below s n0 kc ks Q (T.setTop (mkF m pc L (.int z :: .int x :: S))) := by
  obtain ⟨locs, X, eT, N, hx, hby, hml, hZ, hown, hnm, hret, hlk, hn⟩ := H
  subst hp
  exact oG.go (fun t hr => iremM X hx rfl (hb hby hd) rfl hz hr) k
theorem o_ineg (H : oH p l e R s m args below meth c bc ml y rt Z n0 T h cells slots) {x : Int32}  (hd : decode bc pc = .ok (.ineg, 1)) (hp : pc + 1 = pc') (k : oG p e below s n0 kc ks Q (T.setTop (mkF m pc' L (.int (-x) :: S)))) : oG p e below s n0 kc ks Q (T.setTop (mkF m pc L (.int x :: S))) := by
  obtain ⟨locs, X, eT, N, hx, hby, hml, hZ, hown, hnm, hret, hlk, hn⟩ := H
  subst hp
  exact oG.go (fun t hr => XS.ineg X.here hx rfl (hb hby hd) rfl hr) k
theorem o_lneg (H : oH p l e R s m args below meth c bc ml y rt Z n0 T h cells slots) {x : Int64}  (hd : decode bc pc = .ok (.lneg, 1)) (hp : pc + 1 = pc') (k : oG p e below s n0 kc ks Q (T.setTop (mkF m pc' L (.long (-x) :: S)))) : oG p e below s n0 kc ks Q (T.setTop (mkF m pc L (.long x :: S))) := by
  obtain ⟨locs, X, eT, N, hx, hby, hml, hZ, hown, hnm, hret, hlk, hn⟩ := H
  subst hp
  exact oG.go (fun t hr => XT.lneg X.here hx rfl (hb hby hd) rfl hr) k
theorem o_i2l (H : oH p l e R s m args below meth c bc ml y rt Z n0 T h cells slots) {x : Int32}  (hd : decode bc pc = .ok (.i2l, 1)) (hp : pc + 1 = pc') (k : oG p e below s n0 kc ks Q (T.setTop (mkF m pc' L (.long x.toInt64 :: S)))) : oG p e below s n0 kc ks Q (T.setTop (mkF m pc L (.int x :: S))) := by
  obtain ⟨locs, X, eT, N, hx, hby, hml, hZ, hown, hnm, hret, hlk, hn⟩ := H
  subst hp
  exact oG.go (fun t hr => XT.i2l X.here hx rfl (hb hby hd) rfl hr) k
theorem o_l2i (H : oH p l e R s m args below meth c bc ml y rt Z n0 T h cells slots) {x : Int64}  (hd : decode bc pc = .ok (.l2i, 1)) (hp : pc + 1 = pc') (k : oG p e below s n0 kc ks Q (T.setTop (mkF m pc' L (.int x.toInt32 :: S)))) : oG p e below s n0 kc ks Q (T.setTop (mkF m pc L (.long x :: S))) := by
  obtain ⟨locs, X, eT, N, hx, hby, hml, hZ, hown, hnm, hret, hlk, hn⟩ := H
  subst hp
  exact oG.go (fun t hr => XT.l2i X.here hx rfl (hb hby hd) rfl hr) k
theorem o_i2b (H : oH p l e R s m args below meth c bc ml y rt Z n0 T h cells slots) {x : Int32}  (hd : decode bc pc = .ok (.i2b, 1)) (hp : pc + 1 = pc') (k : oG p e below s n0 kc ks Q (T.setTop (mkF m pc' L (.int x.toInt8.toInt32 :: S)))) : oG p e below s n0 kc ks Q (T.setTop (mkF m pc L (.int x :: S))) := by
  obtain ⟨locs, X, eT, N, hx, hby, hml, hZ, hown, hnm, hret, hlk, hn⟩ := H
  subst hp
  exact oG.go (fun t hr => XT.i2b X.here hx rfl (hb hby hd) rfl hr) k
theorem o_i2c (H : oH p l e R s m args below meth c bc ml y rt Z n0 T h cells slots) {x : Int32}  (hd : decode bc pc = .ok (.i2c, 1)) (hp : pc + 1 = pc') (k : oG p e below s n0 kc ks Q (T.setTop (mkF m pc' L (.int x.toUInt32.toUInt16.toUInt32.toInt32 :: S)))) : oG p e below s n0 kc ks Q (T.setTop (mkF m pc L (.int x :: S))) := by
  obtain ⟨locs, X, eT, N, hx, hby, hml, hZ, hown, hnm, hret, hlk, hn⟩ := H
  subst hp
  exact oG.go (fun t hr => XT.i2c X.here hx rfl (hb hby hd) rfl hr) k
theorem o_i2s (H : oH p l e R s m args below meth c bc ml y rt Z n0 T h cells slots) {x : Int32}  (hd : decode bc pc = .ok (.i2s, 1)) (hp : pc + 1 = pc') (k : oG p e below s n0 kc ks Q (T.setTop (mkF m pc' L (.int x.toInt16.toInt32 :: S)))) : oG p e below s n0 kc ks Q (T.setTop (mkF m pc L (.int x :: S))) := by
  obtain ⟨locs, X, eT, N, hx, hby, hml, hZ, hown, hnm, hret, hlk, hn⟩ := H
  subst hp
  exact oG.go (fun t hr => XT.i2s X.here hx rfl (hb hby hd) rfl hr) k
theorem o_iinc (H : oH p l e R s m args below meth c bc ml y rt Z n0 T h cells slots) {j : Nat} {cst : Int} {x : Int32} (v u : Int32) (hv : Int32.ofInt cst = v) (hu : x + v = u) (hl : L[j]? = some (.val (.int x))) (hl' : storeLocals L j (.int u) = some L') (hd : decode bc pc = .ok (.iinc j cst, 3)) (hp : pc + 3 = pc') (k : oG p e below s n0 kc ks Q (T.setTop (mkF m pc' L' S))) : oG p e below s n0 kc ks Q (T.setTop (mkF m pc L S)) := by
  obtain ⟨locs, X, eT, N, hx, hby, hml, hZ, hown, hnm, hret, hlk, hn⟩ := H
  subst hp
  exact oG.go (fun t hr => XT.iincV X.here hx rfl v (hb hby hd) hv hl (hu ▸ hl') hr) k
theorem o_fold {x : Int32} (v : Int32) (hv : x = v) (k : oG p e below s n0 kc ks Q (T.setTop (mkF m pc L (.int v :: S)))) : oG p e below s n0 kc ks Q (T.setTop (mkF m pc L (.int x :: S))) := hv ▸ k
theorem o_foldJ {x : Int64} (v : Int64) (hv : x = v) (k : oG p e below s n0 kc ks Q (T.setTop (mkF m pc L (.long v :: S)))) : oG p e below s n0 kc ks Q (T.setTop (mkF m pc L (.long x :: S))) := hv ▸ k
theorem o_dup (H : oH p l e R s m args below meth c bc ml y rt Z n0 T h cells slots) {v : Value} (hc : v.category = 1) (hd : decode bc pc = .ok (.dup, 1)) (hp : pc + 1 = pc') (k : oG p e below s n0 kc ks Q (T.setTop (mkF m pc' L (v :: v :: S)))) : oG p e below s n0 kc ks Q (T.setTop (mkF m pc L (v :: S))) := by
  obtain ⟨locs, X, eT, N, hx, hby, hml, hZ, hown, hnm, hret, hlk, hn⟩ := H
  subst hp
  exact oG.go (fun t hr => XS.dup X.here hx rfl (hb hby hd) rfl hc hr) k
theorem o_dup_x1 (H : oH p l e R s m args below meth c bc ml y rt Z n0 T h cells slots) {v w : Value} (hc : v.category = 1) (hc' : w.category = 1) (hd : decode bc pc = .ok (.dup_x1, 1)) (hp : pc + 1 = pc') (k : oG p e below s n0 kc ks Q (T.setTop (mkF m pc' L (v :: w :: v :: S)))) : oG p e below s n0 kc ks Q (T.setTop (mkF m pc L (v :: w :: S))) := by
  obtain ⟨locs, X, eT, N, hx, hby, hml, hZ, hown, hnm, hret, hlk, hn⟩ := H
  subst hp
  exact oG.go (fun t hr => XT.dupX1 X.here hx rfl (hb hby hd) rfl hc hc' hr) k
theorem o_dup2 (H : oH p l e R s m args below meth c bc ml y rt Z n0 T h cells slots) {v w : Value} (hc : v.category = 1) (hc' : w.category = 1) (hd : decode bc pc = .ok (.dup2, 1)) (hp : pc + 1 = pc') (k : oG p e below s n0 kc ks Q (T.setTop (mkF m pc' L (v :: w :: v :: w :: S)))) : oG p e below s n0 kc ks Q (T.setTop (mkF m pc L (v :: w :: S))) := by
  obtain ⟨locs, X, eT, N, hx, hby, hml, hZ, hown, hnm, hret, hlk, hn⟩ := H
  subst hp
  exact oG.go (fun t hr => XT.dup2 X.here hx rfl (hb hby hd) rfl hc hc' hr) k
theorem o_dup2L (H : oH p l e R s m args below meth c bc ml y rt Z n0 T h cells slots) {v : Int64}  (hd : decode bc pc = .ok (.dup2, 1)) (hp : pc + 1 = pc') (k : oG p e below s n0 kc ks Q (T.setTop (mkF m pc' L (.long v :: .long v :: S)))) : oG p e below s n0 kc ks Q (T.setTop (mkF m pc L (.long v :: S))) := by
  obtain ⟨locs, X, eT, N, hx, hby, hml, hZ, hown, hnm, hret, hlk, hn⟩ := H
  subst hp
  exact oG.go (fun t hr => XT.dup2L X.here hx rfl (hb hby hd) rfl hr) k
theorem o_pop (H : oH p l e R s m args below meth c bc ml y rt Z n0 T h cells slots) {v : Value} (hc : v.category = 1) (hd : decode bc pc = .ok (.pop, 1)) (hp : pc + 1 = pc') (k : oG p e below s n0 kc ks Q (T.setTop (mkF m pc' L S))) : oG p e below s n0 kc ks Q (T.setTop (mkF m pc L (v :: S))) := by
  obtain ⟨locs, X, eT, N, hx, hby, hml, hZ, hown, hnm, hret, hlk, hn⟩ := H
  subst hp
  exact oG.go (fun t hr => XT.pop X.here hx rfl (hb hby hd) rfl hc hr) k
theorem o_one {i : Nat} {v : Value} {sl : Slot} (hs : L[i]? = some sl) (h1 : sl = .unset ∨ ∃ z, sl = .val (.int z)) (hv : v.category = 1) : storeLocals L i v = some (L.setIfInBounds i (.val v)) :=
  XS.store1 hs (h1.imp id fun ⟨z, q⟩ => ⟨.int z, q, rfl⟩) hv
theorem o_len {vs : List Int32} : (vs.map Value.int).length.toInt32 = Int32.ofNat vs.length := by rw [List.length_map]
theorem o_get {vs : List Int32} {i : Nat} (h : i < vs.length) : (vs.map Value.int)[i]? = some (.int (vs[i]'h)) := by simp [h]
theorem o_ofNat {n : Nat} (h : n < 2147483648) : (Int32.ofNat n).toInt = n := Int32.toInt_ofNat_of_lt (by omega)
theorem o_lenJ {vs : List Int64} : (vs.map Value.long).length.toInt32 = Int32.ofNat vs.length := by rw [List.length_map]
theorem o_getJ {vs : List Int64} {i : Nat} (h : i < vs.length) : (vs.map Value.long)[i]? = some (.long (vs[i]'h)) := by simp [h]
theorem o_succ {n : Nat} : Int32.ofNat n + 1 = Int32.ofNat (n + 1) := (Int32.ofNat_add n 1).symm
theorem o_bt {A : Prop} [Decidable A] {b : Int32} (e : b = if A then (1 : Int32) else 0) (q : ¬ b = 0) : A := by
  by_cases a : A
  · exact a
  · rw [if_neg a] at e; exact absurd e q
theorem o_bf {A : Prop} [Decidable A] {b : Int32} (e : b = if A then (1 : Int32) else 0) (q : b = 0) : ¬ A := by
  intro a
  exact absurd ((e.trans (if_pos a)).symm.trans q) (by decide)
theorem o_goto (H : oH p l e R s m args below meth c bc ml y rt Z n0 T h cells slots) {o : Int} (hd : decode bc pc = .ok (.goto o, 3)) (ho : 0 ≤ (pc : Int) + o) (hp : ((pc : Int) + o).toNat = pt) (k : oG p e below s n0 kc ks Q (T.setTop (mkF m pt L S))) : oG p e below s n0 kc ks Q (T.setTop (mkF m pc L S)) := by
  obtain ⟨locs, X, eT, N, hx, hby, hml, hZ, hown, hnm, hret, hlk, hn⟩ := H
  exact oG.go (fun t hr => XS.goto X.here hx rfl rfl (hb hby hd) ho hp hr) k
theorem o_icmp_eq (H : oH p l e R s m args below meth c bc ml y rt Z n0 T h cells slots) {o : Int} {x z : Int32} (hd : decode bc pc = .ok (.if_icmp .eq o, 3)) (ho : 0 ≤ (pc : Int) + o) (hp : ((pc : Int) + o).toNat = pt) (hp' : pc + 3 = pc') (kt : x = z → oG p e below s n0 kc ks Q (T.setTop (mkF m pt L S))) (kf : ¬ x = z → oG p e below s n0 kc ks Q (T.setTop (mkF m pc' L S))) : oG p e below s n0 kc ks Q (T.setTop (mkF m pc L (.int z :: .int x :: S))) := by
  by_cases q : x = z
  · have k := kt q
    obtain ⟨locs, X, eT, N, hx, hby, hml, hZ, hown, hnm, hret, hlk, hn⟩ := H
    exact oG.go (fun t hr => XS.icmpYes X.here hx rfl rfl (hb hby hd) rfl (XT.ii_eq_t q) ho hp hr) k
  · have k := kf q
    obtain ⟨locs, X, eT, N, hx, hby, hml, hZ, hown, hnm, hret, hlk, hn⟩ := H
    subst hp'
    exact oG.go (fun t hr => XS.icmpNo X.here hx rfl (hb hby hd) rfl (XT.ii_eq_f q) hr) k
theorem o_if_eq (H : oH p l e R s m args below meth c bc ml y rt Z n0 T h cells slots) {o : Int} {x : Int32} (hd : decode bc pc = .ok (.ifCond .eq o, 3)) (ho : 0 ≤ (pc : Int) + o) (hp : ((pc : Int) + o).toNat = pt) (hp' : pc + 3 = pc') (kt : x = 0 → oG p e below s n0 kc ks Q (T.setTop (mkF m pt L S))) (kf : ¬ x = 0 → oG p e below s n0 kc ks Q (T.setTop (mkF m pc' L S))) : oG p e below s n0 kc ks Q (T.setTop (mkF m pc L (.int x :: S))) := by
  by_cases q : x = 0
  · have k := kt q
    obtain ⟨locs, X, eT, N, hx, hby, hml, hZ, hown, hnm, hret, hlk, hn⟩ := H
    exact oG.go (fun t hr => XS.ifYes X.here hx rfl rfl (hb hby hd) rfl (XT.i0_eq_t q) ho hp hr) k
  · have k := kf q
    obtain ⟨locs, X, eT, N, hx, hby, hml, hZ, hown, hnm, hret, hlk, hn⟩ := H
    subst hp'
    exact oG.go (fun t hr => XS.ifNo X.here hx rfl (hb hby hd) rfl (XT.i0_eq_f q) hr) k
theorem o_ifl_eq (H : oH p l e R s m args below meth c bc ml y rt Z n0 T h cells slots) {o : Int} {x z : Int64} (hd : decode bc pc = .ok (.ifCond .eq o, 3)) (ho : 0 ≤ (pc : Int) + o) (hp : ((pc : Int) + o).toNat = pt) (hp' : pc + 3 = pc') (kt : x = z → oG p e below s n0 kc ks Q (T.setTop (mkF m pt L S))) (kf : ¬ x = z → oG p e below s n0 kc ks Q (T.setTop (mkF m pc' L S))) : oG p e below s n0 kc ks Q (T.setTop (mkF m pc L (.int (XT.cmpL x z) :: S))) := by
  by_cases q : x = z
  · have k := kt q
    obtain ⟨locs, X, eT, N, hx, hby, hml, hZ, hown, hnm, hret, hlk, hn⟩ := H
    exact oG.go (fun t hr => XS.ifYes X.here hx rfl rfl (hb hby hd) rfl (XT.ll_eq_t q) ho hp hr) k
  · have k := kf q
    obtain ⟨locs, X, eT, N, hx, hby, hml, hZ, hown, hnm, hret, hlk, hn⟩ := H
    subst hp'
    exact oG.go (fun t hr => XS.ifNo X.here hx rfl (hb hby hd) rfl (XT.ll_eq_f q) hr) k
theorem o_icmp_ne (H : oH p l e R s m args below meth c bc ml y rt Z n0 T h cells slots) {o : Int} {x z : Int32} (hd : decode bc pc = .ok (.if_icmp .ne o, 3)) (ho : 0 ≤ (pc : Int) + o) (hp : ((pc : Int) + o).toNat = pt) (hp' : pc + 3 = pc') (kt : ¬ x = z → oG p e below s n0 kc ks Q (T.setTop (mkF m pt L S))) (kf : x = z → oG p e below s n0 kc ks Q (T.setTop (mkF m pc' L S))) : oG p e below s n0 kc ks Q (T.setTop (mkF m pc L (.int z :: .int x :: S))) := by
  by_cases q : ¬ x = z
  · have k := kt q
    obtain ⟨locs, X, eT, N, hx, hby, hml, hZ, hown, hnm, hret, hlk, hn⟩ := H
    exact oG.go (fun t hr => XS.icmpYes X.here hx rfl rfl (hb hby hd) rfl (XT.ii_ne_t q) ho hp hr) k
  · have k := kf (Classical.not_not.mp q)
    obtain ⟨locs, X, eT, N, hx, hby, hml, hZ, hown, hnm, hret, hlk, hn⟩ := H
    subst hp'
    exact oG.go (fun t hr => XS.icmpNo X.here hx rfl (hb hby hd) rfl (XT.ii_ne_f (Classical.not_not.mp q)) hr) k
theorem o_if_ne (H : oH p l e R s m args below meth c bc ml y rt Z n0 T h cells slots) {o : Int} {x : Int32} (hd : decode bc pc = .ok (.ifCond .ne o, 3)) (ho : 0 ≤ (pc : Int) + o) (hp : ((pc : Int) + o).toNat = pt) (hp' : pc + 3 = pc') (kt : ¬ x = 0 → oG p e below s n0 kc ks Q (T.setTop (mkF m pt L S))) (kf : x = 0 → oG p e below s n0 kc ks Q (T.setTop (mkF m pc' L S))) : oG p e below s n0 kc ks Q (T.setTop (mkF m pc L (.int x :: S))) := by
  by_cases q : ¬ x = 0
  · have k := kt q
    obtain ⟨locs, X, eT, N, hx, hby, hml, hZ, hown, hnm, hret, hlk, hn⟩ := H
    exact oG.go (fun t hr => XS.ifYes X.here hx rfl rfl (hb hby hd) rfl (XT.i0_ne_t q) ho hp hr) k
  · have k := kf (Classical.not_not.mp q)
    obtain ⟨locs, X, eT, N, hx, hby, hml, hZ, hown, hnm, hret, hlk, hn⟩ := H
    subst hp'
    exact oG.go (fun t hr => XS.ifNo X.here hx rfl (hb hby hd) rfl (XT.i0_ne_f (Classical.not_not.mp q)) hr) k
theorem o_ifl_ne (H : oH p l e R s m args below meth c bc ml y rt Z n0 T h cells slots) {o : Int} {x z : Int64} (hd : decode bc pc = .ok (.ifCond .ne o, 3)) (ho : 0 ≤ (pc : Int) + o) (hp : ((pc : Int) + o).toNat = pt) (hp' : pc + 3 = pc') (kt : ¬ x = z → oG p e below s n0 kc ks Q (T.setTop (mkF m pt L S))) (kf : x = z → oG p e below s n0 kc ks Q (T.setTop (mkF m pc' L S))) : oG p e below s n0 kc ks Q (T.setTop (mkF m pc L (.int (XT.cmpL x z) :: S))) := by
  by_cases q : ¬ x = z
  · have k := kt q
    obtain ⟨locs, X, eT, N, hx, hby, hml, hZ, hown, hnm, hret, hlk, hn⟩ := H
    exact oG.go (fun t hr => XS.ifYes X.here hx rfl rfl (hb hby hd) rfl (XT.ll_ne_t q) ho hp hr) k
  · have k := kf (Classical.not_not.mp q)
    obtain ⟨locs, X, eT, N, hx, hby, hml, hZ, hown, hnm, hret, hlk, hn⟩ := H
    subst hp'
    exact oG.go (fun t hr => XS.ifNo X.here hx rfl (hb hby hd) rfl (XT.ll_ne_f (Classical.not_not.mp q)) hr) k
theorem o_icmp_lt (H : oH p l e R s m args below meth c bc ml y rt Z n0 T h cells slots) {o : Int} {x z : Int32} (hd : decode bc pc = .ok (.if_icmp .lt o, 3)) (ho : 0 ≤ (pc : Int) + o) (hp : ((pc : Int) + o).toNat = pt) (hp' : pc + 3 = pc') (kt : x < z → oG p e below s n0 kc ks Q (T.setTop (mkF m pt L S))) (kf : ¬ x < z → oG p e below s n0 kc ks Q (T.setTop (mkF m pc' L S))) : oG p e below s n0 kc ks Q (T.setTop (mkF m pc L (.int z :: .int x :: S))) := by
  by_cases q : x < z
  · have k := kt q
    obtain ⟨locs, X, eT, N, hx, hby, hml, hZ, hown, hnm, hret, hlk, hn⟩ := H
    exact oG.go (fun t hr => XS.icmpYes X.here hx rfl rfl (hb hby hd) rfl (XT.ii_lt_t q) ho hp hr) k
  · have k := kf q
    obtain ⟨locs, X, eT, N, hx, hby, hml, hZ, hown, hnm, hret, hlk, hn⟩ := H
    subst hp'
    exact oG.go (fun t hr => XS.icmpNo X.here hx rfl (hb hby hd) rfl (XT.ii_lt_f q) hr) k
theorem o_if_lt (H : oH p l e R s m args below meth c bc ml y rt Z n0 T h cells slots) {o : Int} {x : Int32} (hd : decode bc pc = .ok (.ifCond .lt o, 3)) (ho : 0 ≤ (pc : Int) + o) (hp : ((pc : Int) + o).toNat = pt) (hp' : pc + 3 = pc') (kt : x < 0 → oG p e below s n0 kc ks Q (T.setTop (mkF m pt L S))) (kf : ¬ x < 0 → oG p e below s n0 kc ks Q (T.setTop (mkF m pc' L S))) : oG p e below s n0 kc ks Q (T.setTop (mkF m pc L (.int x :: S))) := by
  by_cases q : x < 0
  · have k := kt q
    obtain ⟨locs, X, eT, N, hx, hby, hml, hZ, hown, hnm, hret, hlk, hn⟩ := H
    exact oG.go (fun t hr => XS.ifYes X.here hx rfl rfl (hb hby hd) rfl (XT.i0_lt_t q) ho hp hr) k
  · have k := kf q
    obtain ⟨locs, X, eT, N, hx, hby, hml, hZ, hown, hnm, hret, hlk, hn⟩ := H
    subst hp'
    exact oG.go (fun t hr => XS.ifNo X.here hx rfl (hb hby hd) rfl (XT.i0_lt_f q) hr) k
theorem o_ifl_lt (H : oH p l e R s m args below meth c bc ml y rt Z n0 T h cells slots) {o : Int} {x z : Int64} (hd : decode bc pc = .ok (.ifCond .lt o, 3)) (ho : 0 ≤ (pc : Int) + o) (hp : ((pc : Int) + o).toNat = pt) (hp' : pc + 3 = pc') (kt : x < z → oG p e below s n0 kc ks Q (T.setTop (mkF m pt L S))) (kf : ¬ x < z → oG p e below s n0 kc ks Q (T.setTop (mkF m pc' L S))) : oG p e below s n0 kc ks Q (T.setTop (mkF m pc L (.int (XT.cmpL x z) :: S))) := by
  by_cases q : x < z
  · have k := kt q
    obtain ⟨locs, X, eT, N, hx, hby, hml, hZ, hown, hnm, hret, hlk, hn⟩ := H
    exact oG.go (fun t hr => XS.ifYes X.here hx rfl rfl (hb hby hd) rfl (XT.ll_lt_t q) ho hp hr) k
  · have k := kf q
    obtain ⟨locs, X, eT, N, hx, hby, hml, hZ, hown, hnm, hret, hlk, hn⟩ := H
    subst hp'
    exact oG.go (fun t hr => XS.ifNo X.here hx rfl (hb hby hd) rfl (XT.ll_lt_f q) hr) k
theorem o_icmp_ge (H : oH p l e R s m args below meth c bc ml y rt Z n0 T h cells slots) {o : Int} {x z : Int32} (hd : decode bc pc = .ok (.if_icmp .ge o, 3)) (ho : 0 ≤ (pc : Int) + o) (hp : ((pc : Int) + o).toNat = pt) (hp' : pc + 3 = pc') (kt : ¬ x < z → oG p e below s n0 kc ks Q (T.setTop (mkF m pt L S))) (kf : x < z → oG p e below s n0 kc ks Q (T.setTop (mkF m pc' L S))) : oG p e below s n0 kc ks Q (T.setTop (mkF m pc L (.int z :: .int x :: S))) := by
  by_cases q : ¬ x < z
  · have k := kt q
    obtain ⟨locs, X, eT, N, hx, hby, hml, hZ, hown, hnm, hret, hlk, hn⟩ := H
    exact oG.go (fun t hr => XS.icmpYes X.here hx rfl rfl (hb hby hd) rfl (XT.ii_ge_t q) ho hp hr) k
  · have k := kf (Classical.not_not.mp q)
    obtain ⟨locs, X, eT, N, hx, hby, hml, hZ, hown, hnm, hret, hlk, hn⟩ := H
    subst hp'
    exact oG.go (fun t hr => XS.icmpNo X.here hx rfl (hb hby hd) rfl (XT.ii_ge_f (Classical.not_not.mp q)) hr) k
theorem o_if_ge (H : oH p l e R s m args below meth c bc ml y rt Z n0 T h cells slots) {o : Int} {x : Int32} (hd : decode bc pc = .ok (.ifCond .ge o, 3)) (ho : 0 ≤ (pc : Int) + o) (hp : ((pc : Int) + o).toNat = pt) (hp' : pc + 3 = pc') (kt : ¬ x < 0 → oG p e below s n0 kc ks Q (T.setTop (mkF m pt L S))) (kf : x < 0 → oG p e below s n0 kc ks Q (T.setTop (mkF m pc' L S))) : oG p e below s n0 kc ks Q (T.setTop (mkF m pc L (.int x :: S))) := by
  by_cases q : ¬ x < 0
  · have k := kt q
    obtain ⟨locs, X, eT, N, hx, hby, hml, hZ, hown, hnm, hret, hlk, hn⟩ := H
    exact oG.go (fun t hr => XS.ifYes X.here hx rfl rfl (hb hby hd) rfl (XT.i0_ge_t q) ho hp hr) k
  · have k := kf (Classical.not_not.mp q)
    obtain ⟨locs, X, eT, N, hx, hby, hml, hZ, hown, hnm, hret, hlk, hn⟩ := H
    subst hp'
    exact oG.go (fun t hr => XS.ifNo X.here hx rfl (hb hby hd) rfl (XT.i0_ge_f (Classical.not_not.mp q)) hr) k
theorem o_ifl_ge (H : oH p l e R s m args below meth c bc ml y rt Z n0 T h cells slots) {o : Int} {x z : Int64} (hd : decode bc pc = .ok (.ifCond .ge o, 3)) (ho : 0 ≤ (pc : Int) + o) (hp : ((pc : Int) + o).toNat = pt) (hp' : pc + 3 = pc') (kt : ¬ x < z → oG p e below s n0 kc ks Q (T.setTop (mkF m pt L S))) (kf : x < z → oG p e below s n0 kc ks Q (T.setTop (mkF m pc' L S))) : oG p e below s n0 kc ks Q (T.setTop (mkF m pc L (.int (XT.cmpL x z) :: S))) := by
  by_cases q : ¬ x < z
  · have k := kt q
    obtain ⟨locs, X, eT, N, hx, hby, hml, hZ, hown, hnm, hret, hlk, hn⟩ := H
    exact oG.go (fun t hr => XS.ifYes X.here hx rfl rfl (hb hby hd) rfl (XT.ll_ge_t q) ho hp hr) k
  · have k := kf (Classical.not_not.mp q)
    obtain ⟨locs, X, eT, N, hx, hby, hml, hZ, hown, hnm, hret, hlk, hn⟩ := H
    subst hp'
    exact oG.go (fun t hr => XS.ifNo X.here hx rfl (hb hby hd) rfl (XT.ll_ge_f (Classical.not_not.mp q)) hr) k
theorem o_icmp_gt (H : oH p l e R s m args below meth c bc ml y rt Z n0 T h cells slots) {o : Int} {x z : Int32} (hd : decode bc pc = .ok (.if_icmp .gt o, 3)) (ho : 0 ≤ (pc : Int) + o) (hp : ((pc : Int) + o).toNat = pt) (hp' : pc + 3 = pc') (kt : z < x → oG p e below s n0 kc ks Q (T.setTop (mkF m pt L S))) (kf : ¬ z < x → oG p e below s n0 kc ks Q (T.setTop (mkF m pc' L S))) : oG p e below s n0 kc ks Q (T.setTop (mkF m pc L (.int z :: .int x :: S))) := by
  by_cases q : z < x
  · have k := kt q
    obtain ⟨locs, X, eT, N, hx, hby, hml, hZ, hown, hnm, hret, hlk, hn⟩ := H
    exact oG.go (fun t hr => XS.icmpYes X.here hx rfl rfl (hb hby hd) rfl (XT.ii_gt_t q) ho hp hr) k
  · have k := kf q
    obtain ⟨locs, X, eT, N, hx, hby, hml, hZ, hown, hnm, hret, hlk, hn⟩ := H
    subst hp'
    exact oG.go (fun t hr => XS.icmpNo X.here hx rfl (hb hby hd) rfl (XT.ii_gt_f q) hr) k
theorem o_if_gt (H : oH p l e R s m args below meth c bc ml y rt Z n0 T h cells slots) {o : Int} {x : Int32} (hd : decode bc pc = .ok (.ifCond .gt o, 3)) (ho : 0 ≤ (pc : Int) + o) (hp : ((pc : Int) + o).toNat = pt) (hp' : pc + 3 = pc') (kt : 0 < x → oG p e below s n0 kc ks Q (T.setTop (mkF m pt L S))) (kf : ¬ 0 < x → oG p e below s n0 kc ks Q (T.setTop (mkF m pc' L S))) : oG p e below s n0 kc ks Q (T.setTop (mkF m pc L (.int x :: S))) := by
  by_cases q : 0 < x
  · have k := kt q
    obtain ⟨locs, X, eT, N, hx, hby, hml, hZ, hown, hnm, hret, hlk, hn⟩ := H
    exact oG.go (fun t hr => XS.ifYes X.here hx rfl rfl (hb hby hd) rfl (XT.i0_gt_t q) ho hp hr) k
  · have k := kf q
    obtain ⟨locs, X, eT, N, hx, hby, hml, hZ, hown, hnm, hret, hlk, hn⟩ := H
    subst hp'
    exact oG.go (fun t hr => XS.ifNo X.here hx rfl (hb hby hd) rfl (XT.i0_gt_f q) hr) k
theorem o_ifl_gt (H : oH p l e R s m args below meth c bc ml y rt Z n0 T h cells slots) {o : Int} {x z : Int64} (hd : decode bc pc = .ok (.ifCond .gt o, 3)) (ho : 0 ≤ (pc : Int) + o) (hp : ((pc : Int) + o).toNat = pt) (hp' : pc + 3 = pc') (kt : z < x → oG p e below s n0 kc ks Q (T.setTop (mkF m pt L S))) (kf : ¬ z < x → oG p e below s n0 kc ks Q (T.setTop (mkF m pc' L S))) : oG p e below s n0 kc ks Q (T.setTop (mkF m pc L (.int (XT.cmpL x z) :: S))) := by
  by_cases q : z < x
  · have k := kt q
    obtain ⟨locs, X, eT, N, hx, hby, hml, hZ, hown, hnm, hret, hlk, hn⟩ := H
    exact oG.go (fun t hr => XS.ifYes X.here hx rfl rfl (hb hby hd) rfl (XT.ll_gt_t q) ho hp hr) k
  · have k := kf q
    obtain ⟨locs, X, eT, N, hx, hby, hml, hZ, hown, hnm, hret, hlk, hn⟩ := H
    subst hp'
    exact oG.go (fun t hr => XS.ifNo X.here hx rfl (hb hby hd) rfl (XT.ll_gt_f q) hr) k
theorem o_icmp_le (H : oH p l e R s m args below meth c bc ml y rt Z n0 T h cells slots) {o : Int} {x z : Int32} (hd : decode bc pc = .ok (.if_icmp .le o, 3)) (ho : 0 ≤ (pc : Int) + o) (hp : ((pc : Int) + o).toNat = pt) (hp' : pc + 3 = pc') (kt : ¬ z < x → oG p e below s n0 kc ks Q (T.setTop (mkF m pt L S))) (kf : z < x → oG p e below s n0 kc ks Q (T.setTop (mkF m pc' L S))) : oG p e below s n0 kc ks Q (T.setTop (mkF m pc L (.int z :: .int x :: S))) := by
  by_cases q : ¬ z < x
  · have k := kt q
    obtain ⟨locs, X, eT, N, hx, hby, hml, hZ, hown, hnm, hret, hlk, hn⟩ := H
    exact oG.go (fun t hr => XS.icmpYes X.here hx rfl rfl (hb hby hd) rfl (XT.ii_le_t q) ho hp hr) k
  · have k := kf (Classical.not_not.mp q)
    obtain ⟨locs, X, eT, N, hx, hby, hml, hZ, hown, hnm, hret, hlk, hn⟩ := H
    subst hp'
    exact oG.go (fun t hr => XS.icmpNo X.here hx rfl (hb hby hd) rfl (XT.ii_le_f (Classical.not_not.mp q)) hr) k
theorem o_if_le (H : oH p l e R s m args below meth c bc ml y rt Z n0 T h cells slots) {o : Int} {x : Int32} (hd : decode bc pc = .ok (.ifCond .le o, 3)) (ho : 0 ≤ (pc : Int) + o) (hp : ((pc : Int) + o).toNat = pt) (hp' : pc + 3 = pc') (kt : ¬ 0 < x → oG p e below s n0 kc ks Q (T.setTop (mkF m pt L S))) (kf : 0 < x → oG p e below s n0 kc ks Q (T.setTop (mkF m pc' L S))) : oG p e below s n0 kc ks Q (T.setTop (mkF m pc L (.int x :: S))) := by
  by_cases q : ¬ 0 < x
  · have k := kt q
    obtain ⟨locs, X, eT, N, hx, hby, hml, hZ, hown, hnm, hret, hlk, hn⟩ := H
    exact oG.go (fun t hr => XS.ifYes X.here hx rfl rfl (hb hby hd) rfl (XT.i0_le_t q) ho hp hr) k
  · have k := kf (Classical.not_not.mp q)
    obtain ⟨locs, X, eT, N, hx, hby, hml, hZ, hown, hnm, hret, hlk, hn⟩ := H
    subst hp'
    exact oG.go (fun t hr => XS.ifNo X.here hx rfl (hb hby hd) rfl (XT.i0_le_f (Classical.not_not.mp q)) hr) k
theorem o_ifl_le (H : oH p l e R s m args below meth c bc ml y rt Z n0 T h cells slots) {o : Int} {x z : Int64} (hd : decode bc pc = .ok (.ifCond .le o, 3)) (ho : 0 ≤ (pc : Int) + o) (hp : ((pc : Int) + o).toNat = pt) (hp' : pc + 3 = pc') (kt : ¬ z < x → oG p e below s n0 kc ks Q (T.setTop (mkF m pt L S))) (kf : z < x → oG p e below s n0 kc ks Q (T.setTop (mkF m pc' L S))) : oG p e below s n0 kc ks Q (T.setTop (mkF m pc L (.int (XT.cmpL x z) :: S))) := by
  by_cases q : ¬ z < x
  · have k := kt q
    obtain ⟨locs, X, eT, N, hx, hby, hml, hZ, hown, hnm, hret, hlk, hn⟩ := H
    exact oG.go (fun t hr => XS.ifYes X.here hx rfl rfl (hb hby hd) rfl (XT.ll_le_t q) ho hp hr) k
  · have k := kf (Classical.not_not.mp q)
    obtain ⟨locs, X, eT, N, hx, hby, hml, hZ, hown, hnm, hret, hlk, hn⟩ := H
    subst hp'
    exact oG.go (fun t hr => XS.ifNo X.here hx rfl (hb hby hd) rfl (XT.ll_le_f (Classical.not_not.mp q)) hr) k
theorem o_icmp_t (H : oH p l e R s m args below meth c bc ml y rt Z n0 T h cells slots) {o : Int} {cd : ClassFile.Cond} {x z : Int32} (hd : decode bc pc = .ok (.if_icmp cd o, 3)) (hc : if_icmp.holds cd x z = true) (ho : 0 ≤ (pc : Int) + o) (hp : ((pc : Int) + o).toNat = pt) (k : oG p e below s n0 kc ks Q (T.setTop (mkF m pt L S))) : oG p e below s n0 kc ks Q (T.setTop (mkF m pc L (.int z :: .int x :: S))) := by
  obtain ⟨locs, X, eT, N, hx, hby, hml, hZ, hown, hnm, hret, hlk, hn⟩ := H
  exact oG.go (fun t hr => XS.icmpYes X.here hx rfl rfl (hb hby hd) rfl hc ho hp hr) k
theorem o_icmp_f (H : oH p l e R s m args below meth c bc ml y rt Z n0 T h cells slots) {o : Int} {cd : ClassFile.Cond} {x z : Int32} (hd : decode bc pc = .ok (.if_icmp cd o, 3)) (hc : if_icmp.holds cd x z = false) (hp : pc + 3 = pc') (k : oG p e below s n0 kc ks Q (T.setTop (mkF m pc' L S))) : oG p e below s n0 kc ks Q (T.setTop (mkF m pc L (.int z :: .int x :: S))) := by
  obtain ⟨locs, X, eT, N, hx, hby, hml, hZ, hown, hnm, hret, hlk, hn⟩ := H
  subst hp
  exact oG.go (fun t hr => XS.icmpNo X.here hx rfl (hb hby hd) rfl hc hr) k
theorem o_if_t (H : oH p l e R s m args below meth c bc ml y rt Z n0 T h cells slots) {o : Int} {cd : ClassFile.Cond} {x : Int32} (hd : decode bc pc = .ok (.ifCond cd o, 3)) (hc : ifCond.holds cd x = true) (ho : 0 ≤ (pc : Int) + o) (hp : ((pc : Int) + o).toNat = pt) (k : oG p e below s n0 kc ks Q (T.setTop (mkF m pt L S))) : oG p e below s n0 kc ks Q (T.setTop (mkF m pc L (.int x :: S))) := by
  obtain ⟨locs, X, eT, N, hx, hby, hml, hZ, hown, hnm, hret, hlk, hn⟩ := H
  exact oG.go (fun t hr => XS.ifYes X.here hx rfl rfl (hb hby hd) rfl hc ho hp hr) k
theorem o_if_f (H : oH p l e R s m args below meth c bc ml y rt Z n0 T h cells slots) {o : Int} {cd : ClassFile.Cond} {x : Int32} (hd : decode bc pc = .ok (.ifCond cd o, 3)) (hc : ifCond.holds cd x = false) (hp : pc + 3 = pc') (k : oG p e below s n0 kc ks Q (T.setTop (mkF m pc' L S))) : oG p e below s n0 kc ks Q (T.setTop (mkF m pc L (.int x :: S))) := by
  obtain ⟨locs, X, eT, N, hx, hby, hml, hZ, hown, hnm, hret, hlk, hn⟩ := H
  subst hp
  exact oG.go (fun t hr => XS.ifNo X.here hx rfl (hb hby hd) rfl hc hr) k
theorem o_ifnull_t (H : oH p l e R s m args below meth c bc ml y rt Z n0 T h cells slots) {o : Int} (hd : decode bc pc = .ok (.ifnull o, 3)) (ho : 0 ≤ (pc : Int) + o) (hp : ((pc : Int) + o).toNat = pt) (k : oG p e below s n0 kc ks Q (T.setTop (mkF m pt L S))) : oG p e below s n0 kc ks Q (T.setTop (mkF m pc L (.null :: S))) := by
  obtain ⟨locs, X, eT, N, hx, hby, hml, hZ, hown, hnm, hret, hlk, hn⟩ := H
  exact oG.go (fun t hr => XS.ifnullYes X.here hx rfl rfl (hb hby hd) rfl ho hp hr) k
theorem o_ifnull_f (H : oH p l e R s m args below meth c bc ml y rt Z n0 T h cells slots) {o : Int} {a : Addr} (hd : decode bc pc = .ok (.ifnull o, 3)) (hp : pc + 3 = pc') (k : oG p e below s n0 kc ks Q (T.setTop (mkF m pc' L S))) : oG p e below s n0 kc ks Q (T.setTop (mkF m pc L (.ref a :: S))) := by
  obtain ⟨locs, X, eT, N, hx, hby, hml, hZ, hown, hnm, hret, hlk, hn⟩ := H
  subst hp
  exact oG.go (fun t hr => XS.ifnullNo X.here hx rfl (hb hby hd) rfl hr) k
theorem o_ifnonnull_t (H : oH p l e R s m args below meth c bc ml y rt Z n0 T h cells slots) {o : Int} {a : Addr} (hd : decode bc pc = .ok (.ifnonnull o, 3)) (ho : 0 ≤ (pc : Int) + o) (hp : ((pc : Int) + o).toNat = pt) (k : oG p e below s n0 kc ks Q (T.setTop (mkF m pt L S))) : oG p e below s n0 kc ks Q (T.setTop (mkF m pc L (.ref a :: S))) := by
  obtain ⟨locs, X, eT, N, hx, hby, hml, hZ, hown, hnm, hret, hlk, hn⟩ := H
  exact oG.go (fun t hr => XT.ifnonnullYes X.here hx rfl rfl (hb hby hd) rfl ho hp hr) k
theorem o_ifnonnull_f (H : oH p l e R s m args below meth c bc ml y rt Z n0 T h cells slots) {o : Int} (hd : decode bc pc = .ok (.ifnonnull o, 3)) (hp : pc + 3 = pc') (k : oG p e below s n0 kc ks Q (T.setTop (mkF m pc' L S))) : oG p e below s n0 kc ks Q (T.setTop (mkF m pc L (.null :: S))) := by
  obtain ⟨locs, X, eT, N, hx, hby, hml, hZ, hown, hnm, hret, hlk, hn⟩ := H
  subst hp
  exact oG.go (fun t hr => XT.ifnonnullNo X.here hx rfl (hb hby hd) rfl hr) k
theorem o_acmp_t (H : oH p l e R s m args below meth c bc ml y rt Z n0 T h cells slots) {o : Int} {cd : ClassFile.ACond} {u w : Value} (hd : decode bc pc = .ok (.if_acmp cd o, 3)) (hu : u.isRef = true) (hw : w.isRef = true) (hc : XT.acmp cd u w = true) (ho : 0 ≤ (pc : Int) + o) (hp : ((pc : Int) + o).toNat = pt) (k : oG p e below s n0 kc ks Q (T.setTop (mkF m pt L S))) : oG p e below s n0 kc ks Q (T.setTop (mkF m pc L (w :: u :: S))) := by
  obtain ⟨locs, X, eT, N, hx, hby, hml, hZ, hown, hnm, hret, hlk, hn⟩ := H
  exact oG.go (fun t hr => XT.acmpYes X.here hx rfl rfl (hb hby hd) rfl hu hw hc ho hp hr) k
theorem o_acmp_f (H : oH p l e R s m args below meth c bc ml y rt Z n0 T h cells slots) {o : Int} {cd : ClassFile.ACond} {u w : Value} (hd : decode bc pc = .ok (.if_acmp cd o, 3)) (hu : u.isRef = true) (hw : w.isRef = true) (hc : XT.acmp cd u w = false) (hp : pc + 3 = pc') (k : oG p e below s n0 kc ks Q (T.setTop (mkF m pc' L S))) : oG p e below s n0 kc ks Q (T.setTop (mkF m pc L (w :: u :: S))) := by
  obtain ⟨locs, X, eT, N, hx, hby, hml, hZ, hown, hnm, hret, hlk, hn⟩ := H
  subst hp
  exact oG.go (fun t hr => XT.acmpNo X.here hx rfl (hb hby hd) rfl hu hw hc hr) k
theorem o_ldcI (H : oH p l e R s m args below meth c bc ml y rt Z n0 T h cells slots) {i : Nat} (v : Int32) (w : (Jvm.Cond.constant y.cls i v).before a0 Z = true) (hd : decode bc pc = .ok (.ldc i, 2)) (hp : pc + 2 = pc') (k : oG p e below s n0 kc ks Q (T.setTop (mkF m pc' L (.int v :: S)))) : oG p e below s n0 kc ks Q (T.setTop (mkF m pc L S)) := by
  obtain ⟨locs, X, eT, N, hx, hby, hml, hZ, hown, hnm, hret, hlk, hn⟩ := H
  subst hp
  exact oG.go (X.ldcInt hx hown (mvT hZ w) (g := mkF m pc L S) rfl (hb hby hd)) k
theorem o_ldcJ (H : oH p l e R s m args below meth c bc ml y rt Z n0 T h cells slots) {i : Nat} (v : Int64) (w : (Jvm.Cond.constantLong y.cls i v).before a0 Z = true) (hd : decode bc pc = .ok (.ldc2_w i, 3)) (hp : pc + 3 = pc') (k : oG p e below s n0 kc ks Q (T.setTop (mkF m pc' L (.long v :: S)))) : oG p e below s n0 kc ks Q (T.setTop (mkF m pc L S)) := by
  obtain ⟨locs, X, eT, N, hx, hby, hml, hZ, hown, hnm, hret, hlk, hn⟩ := H
  subst hp
  exact oG.go (X.ldc2Long hx hown (mvT hZ w) (g := mkF m pc L S) rfl (hb hby hd)) k
theorem o_ireturn (H : oH p l e R s m args below meth c bc ml y rt Z n0 T h cells slots) {z : Int32} (hrt : rt = some .int) (hd : decode bc pc = .ok (.ireturn, 1)) (hk : cells ≤ kc) (hs : slots ≤ ks) (q : Q (some (.int z)) h) : oG p e below s n0 kc ks Q (T.setTop (mkF m pc L (.int z :: S))) := by
  obtain ⟨locs, X, eT, N, hx, hby, hml, hZ, hown, hnm, hret, hlk, hn⟩ := H
  obtain ⟨fs, hr, hrun, hended, hW, hsame⟩ := X.leave (v := (some (.int z))) (fun hh => by first | rfl | (rw [hret, hrt] at hh; cases hh)) hlk
  refine ⟨_, _, retI X hx (hret.trans hrt) (hb hby hd) hr, hrun, hended, _, _, rfl, ⟨?_, N⟩, ⟨_, rfl⟩, hW, hsame.mono hk hs⟩
  show Q _ T.heap
  rw [eT]; exact q
theorem o_nreturn (H : oH p l e R s m args below meth c bc ml y rt Z n0 T h cells slots) {z : Int32} (t : FieldType) (hrt : rt = some t) (ht : t = .boolean ∨ t = .byte ∨ t = .char ∨ t = .short) (hd : decode bc pc = .ok (.ireturn, 1)) (hk : cells ≤ kc) (hs : slots ≤ ks) (q : Q (some (.int (nar t z))) h) : oG p e below s n0 kc ks Q (T.setTop (mkF m pc L (.int z :: S))) := by
  obtain ⟨locs, X, eT, N, hx, hby, hml, hZ, hown, hnm, hret, hlk, hn⟩ := H
  obtain ⟨fs, hr, hrun, hended, hW, hsame⟩ := X.leave (v := (some (.int (nar t z)))) (fun hh => by first | rfl | (rw [hret, hrt] at hh; cases hh)) hlk
  refine ⟨_, _, retN X hx (hret.trans hrt) ht (hb hby hd) hr, hrun, hended, _, _, rfl, ⟨?_, N⟩, ⟨_, rfl⟩, hW, hsame.mono hk hs⟩
  show Q _ T.heap
  rw [eT]; exact q
theorem o_lreturn (H : oH p l e R s m args below meth c bc ml y rt Z n0 T h cells slots) {z : Int64} (hrt : rt = some .long) (hd : decode bc pc = .ok (.lreturn, 1)) (hk : cells ≤ kc) (hs : slots ≤ ks) (q : Q (some (.long z)) h) : oG p e below s n0 kc ks Q (T.setTop (mkF m pc L (.long z :: S))) := by
  obtain ⟨locs, X, eT, N, hx, hby, hml, hZ, hown, hnm, hret, hlk, hn⟩ := H
  obtain ⟨fs, hr, hrun, hended, hW, hsame⟩ := X.leave (v := (some (.long z))) (fun hh => by first | rfl | (rw [hret, hrt] at hh; cases hh)) hlk
  refine ⟨_, _, retOut X hx (w := .long z) (i := .lreturn) (hret.trans hrt) rfl (Or.inr (Or.inl ⟨rfl, rfl, z, rfl⟩)) (hb hby hd) hr, hrun, hended, _, _, rfl, ⟨?_, N⟩, ⟨_, rfl⟩, hW, hsame.mono hk hs⟩
  show Q _ T.heap
  rw [eT]; exact q
theorem o_areturn (H : oH p l e R s m args below meth c bc ml y rt Z n0 T h cells slots) {v : Value} {t : FieldType} (hrt : rt = some t) (ht : t.isReference = true) (hv : v.isRef = true) (hna : narrow t v = v) (hd : decode bc pc = .ok (.areturn, 1)) (hk : cells ≤ kc) (hs : slots ≤ ks) (q : Q (some v) h) : oG p e below s n0 kc ks Q (T.setTop (mkF m pc L (v :: S))) := by
  obtain ⟨locs, X, eT, N, hx, hby, hml, hZ, hown, hnm, hret, hlk, hn⟩ := H
  obtain ⟨fs, hr, hrun, hended, hW, hsame⟩ := X.leave (v := (some v)) (fun hh => by first | rfl | (rw [hret, hrt] at hh; cases hh)) hlk
  refine ⟨_, _, retOut X hx (w := v) (i := .areturn) (hret.trans hrt) hna (Or.inr (Or.inr (Or.inr (Or.inr ⟨rfl, ht, hv⟩)))) (hb hby hd) hr, hrun, hended, _, _, rfl, ⟨?_, N⟩, ⟨_, rfl⟩, hW, hsame.mono hk hs⟩
  show Q _ T.heap
  rw [eT]; exact q
theorem o_return (H : oH p l e R s m args below meth c bc ml y rt Z n0 T h cells slots)  (hrt : rt = none) (hd : decode bc pc = .ok (.return_, 1)) (hk : cells ≤ kc) (hs : slots ≤ ks) (q : Q none h) : oG p e below s n0 kc ks Q (T.setTop (mkF m pc L [])) := by
  obtain ⟨locs, X, eT, N, hx, hby, hml, hZ, hown, hnm, hret, hlk, hn⟩ := H
  obtain ⟨fs, hr, hrun, hended, hW, hsame⟩ := X.leave (v := none) (fun hh => by first | rfl | (rw [hret, hrt] at hh; cases hh)) hlk
  refine ⟨_, _, X.returnOut hx (hret.trans hrt) (hb hby hd) hr, hrun, hended, _, _, rfl, ⟨?_, N⟩, ⟨_, rfl⟩, hW, hsame.mono hk hs⟩
  show Q _ T.heap
  rw [eT]; exact q
theorem o_new (H : oH p l e R s m args below meth c bc ml y rt Z n0 T h cells slots) {i nn : Nat} {C : String} (w : (Jvm.Cond.classLink y.cls i C).before a0 Z = true) (wi : (Jvm.Cond.instantiable C nn).before a0 Z = true) (wz : (Jvm.Cond.initialized C).before a0 Z = true) (hd : decode bc pc = .ok (.new i, 3)) (hp : pc + 3 = pc') (hc : cells + 1 ≤ R.cells) (hl : slots + nn ≤ R.slots)
    (k : ∀ (T' : State) (h' : Heap) (a : Addr), a = h.size → oH p l e R s m args below meth c bc ml y rt Z n0 T' h' (cells + 1) (slots + nn) → Ext h h' → Exa Z h' a C → (∀ {O nm d : String} {ty : FieldType}, Laid Z a0 C O nm d → parseFieldDescriptor d = some ty → Fld Z h' a O nm d (defaultValue ty)) → oG p e below s n0 kc ks Q (T'.setTop (mkF m pc' L (.ref a :: S)))) : oG p e below s n0 kc ks Q (T.setTop (mkF m pc L S)) := by
  obtain ⟨locs, X, eT, N, hx, hby, hml, hZ, hown, hnm, hret, hlk, hn⟩ := H
  subst hp
  obtain ⟨T', h', X', e', E, A, D, -, st⟩ := newO X hx hZ hown w wi wz eT (g := mkF m pc L S) rfl (hb hby hd) hc hl
  exact oG.go st (k T' h' _ rfl ⟨locs, X', e', N, hx, hby, hml, hZ, hown, hnm, hret, hlk, hn⟩ E A (fun La ht => D La ht))
theorem o_initO (H : oH p l e R s m args below meth c bc ml y rt Z n0 T h cells slots) {i : Nat} {a : Addr} (w1 : (Jvm.Cond.methodLink y.cls i Lib.objectInit).before a0 Z = true) (w2 : (Jvm.Cond.instanceMethod Lib.objectInit).before a0 Z = true) (w3 : (Jvm.Cond.code Lib.objectInit ⟨#[0xb1]⟩ 1 none).before a0 Z = true) (hd : decode bc pc = .ok (.invokespecial i, 3)) (hp : pc + 3 = pc') (hsz : L.size = ml) (hf : 1 ≤ R.frames) (hlo : (S.map fun v => v.category).sum + 12 ≤ R.locals)
    (k : ∀ (T' : State), oH p l e R s m args below meth c bc ml y rt Z n0 T' h cells slots → oG p e below s n0 kc ks Q (T'.setTop (mkF m pc' L S))) : oG p e below s n0 kc ks Q (T.setTop (mkF m pc L (.ref a :: S))) := by
  obtain ⟨locs, X, eT, N, hx, hby, hml, hZ, hown, hnm, hret, hlk, hn⟩ := H
  subst hp
  obtain ⟨T', X', e', st⟩ := initO X hx hZ hown w1 w2 w3 eT (g := mkF m pc L (.ref a :: S)) rfl (by rw [hml]; exact hsz) rfl (hb hby hd) hf (W := (S.map fun v => v.category).sum) (by show 2 * 0 + _ ≤ _; omega) hlo
  exact oG.go st (k T' ⟨locs, X', e', N, hx, hby, hml, hZ, hown, hnm, hret, hlk, hn⟩)
theorem o_getF (H : oH p l e R s m args below meth c bc ml y rt Z n0 T h cells slots) {i : Nat} {a : Addr} {C f d host : String} {v : Value} (w : (Jvm.Cond.fieldLink y.cls i C f d).before a0 Z = true ∨ (Jvm.Cond.fieldLinkNest y.cls i C f d host).before a0 Z = true) (F : Fld Z h a C f d v) (hd : decode bc pc = .ok (.getfield i, 3)) (hp : pc + 3 = pc')
    (k : ∀ (T' : State), oH p l e R s m args below meth c bc ml y rt Z n0 T' h cells slots → oG p e below s n0 kc ks Q (T'.setTop (mkF m pc' L (v :: S)))) : oG p e below s n0 kc ks Q (T.setTop (mkF m pc L (.ref a :: S))) := by
  obtain ⟨locs, X, eT, N, hx, hby, hml, hZ, hown, hnm, hret, hlk, hn⟩ := H
  subst hp
  obtain ⟨T', X', e', st⟩ := getF X hx hZ hown (host := host) w Via.refl eT F (g := mkF m pc L (.ref a :: S)) rfl rfl (hb hby hd)
  exact oG.go st (k T' ⟨locs, X', e', N, hx, hby, hml, hZ, hown, hnm, hret, hlk, hn⟩)
theorem o_putF (H : oH p l e R s m args below meth c bc ml y rt Z n0 T h cells slots) {i kk : Nat} {a : Addr} {C K f d host : String} {v old : Value} {ty : FieldType} (w : (Jvm.Cond.fieldLink y.cls i C f d).before a0 Z = true ∨ (Jvm.Cond.fieldLinkNest y.cls i C f d host).before a0 Z = true) (F : Fld Z h a C f d old) (E : Exa Z h a K) (wl : (Jvm.Cond.lays K C f d).before a0 Z = true ∨ ((Jvm.Cond.laysFinal K C f d).before a0 Z = true ∧ y.cls = C ∧ y.name = "<init>")) (wi : (Jvm.Cond.instantiable K kk).before a0 Z = true) (hty : parseFieldDescriptor d = some ty) (hna : narrow ty v = v) (hft : fits ty v = true) (ha : n0 ≤ a) (hd : decode bc pc = .ok (.putfield i, 3)) (hp : pc + 3 = pc')
    (k : ∀ (T' : State) (h' : Heap), oH p l e R s m args below meth c bc ml y rt Z n0 T' h' cells slots → Wr h h' a (Jvm.RoadKit.slotOf Z C f d) v → oG p e below s n0 kc ks Q (T'.setTop (mkF m pc' L S))) : oG p e below s n0 kc ks Q (T.setTop (mkF m pc L (v :: .ref a :: S))) := by
  obtain ⟨locs, X, eT, N, hx, hby, hml, hZ, hown, hnm, hret, hlk, hn⟩ := H
  subst hp
  obtain ⟨T', h', X', e', W, st⟩ := putF X hx hZ hown (host := host) w Via.refl eT F E (wl.imp id fun q => ⟨q.1, q.2.1, hnm.trans q.2.2⟩) wi hty hna hft (g := mkF m pc L (v :: .ref a :: S)) rfl rfl (hb hby hd)
  exact oG.go st (k T' h' ⟨_, X', e', Fr.snoc X' N ha, hx, hby, hml, hZ, hown, hnm, hret, hlk, hn⟩ W)
theorem o_putFN (H : oH p l e R s m args below meth c bc ml y rt Z n0 T h cells slots) {i kk : Nat} {a : Addr} {C K f d : String} {v v' old : Value} {ty : FieldType} (w : (Jvm.Cond.fieldLink y.cls i C f d).before a0 Z = true) (F : Fld Z h a C f d old) (E : Exa Z h a K) (wl : (Jvm.Cond.lays K C f d).before a0 Z = true ∨ ((Jvm.Cond.laysFinal K C f d).before a0 Z = true ∧ y.cls = C ∧ y.name = "<init>")) (wi : (Jvm.Cond.instantiable K kk).before a0 Z = true) (hty : parseFieldDescriptor d = some ty) (hna : narrow ty v = v') (hft : fits ty v' = true) (ha : n0 ≤ a) (hd : decode bc pc = .ok (.putfield i, 3)) (hp : pc + 3 = pc')
    (k : ∀ (T' : State) (h' : Heap), oH p l e R s m args below meth c bc ml y rt Z n0 T' h' cells slots → Wr h h' a (Jvm.RoadKit.slotOf Z C f d) v' → oG p e below s n0 kc ks Q (T'.setTop (mkF m pc' L S))) : oG p e below s n0 kc ks Q (T.setTop (mkF m pc L (v :: .ref a :: S))) := by
  obtain ⟨locs, X, eT, N, hx, hby, hml, hZ, hown, hnm, hret, hlk, hn⟩ := H
  subst hp
  obtain ⟨T', h', X', e', W, st⟩ := putFN X hx hZ hown w Via.refl eT F E (wl.imp id fun q => ⟨q.1, q.2.1, hnm.trans q.2.2⟩) wi hty hna hft (g := mkF m pc L (v :: .ref a :: S)) rfl rfl (hb hby hd)
  exact oG.go st (k T' h' ⟨_, X', e', Fr.snoc X' N ha, hx, hby, hml, hZ, hown, hnm, hret, hlk, hn⟩ W)
theorem o_getS (H : oH p l e R s m args below meth c bc ml y rt Z n0 T h cells slots) {i : Nat} {C f d host : String} {v : Value} (w : (Jvm.Cond.fieldLink y.cls i C f d).before a0 Z = true ∨ (Jvm.Cond.fieldLinkNest y.cls i C f d host).before a0 Z = true) (F : Sta Z h C f d v) (hd : decode bc pc = .ok (.getstatic i, 3)) (hp : pc + 3 = pc')
    (k : ∀ (T' : State), oH p l e R s m args below meth c bc ml y rt Z n0 T' h cells slots → oG p e below s n0 kc ks Q (T'.setTop (mkF m pc' L (v :: S)))) : oG p e below s n0 kc ks Q (T.setTop (mkF m pc L S)) := by
  obtain ⟨locs, X, eT, N, hx, hby, hml, hZ, hown, hnm, hret, hlk, hn⟩ := H
  subst hp
  obtain ⟨T', X', e', st⟩ := getS2 X hx hZ hown (host := host) w Via.refl eT F (g := mkF m pc L S) rfl (hb hby hd)
  exact oG.go st (k T' ⟨locs, X', e', N, hx, hby, hml, hZ, hown, hnm, hret, hlk, hn⟩)
/-- an array, by the list of what it holds -/
def oA (ty : FieldType) (Z : State) (h : Heap) (a : Addr) (vs : List Value) : Prop := vs.length < 2 ^ 31 ∧ ∃ cl : Cell, Arr Z h a cl ty ∧ cl.slots = vs.toArray
theorem oA.ext {ty : FieldType} {h' : Heap} {a : Addr} {vs : List Value} (A : oA ty Z h a vs) (E : Ext h h') : oA ty Z h' a vs := by
  obtain ⟨q, cl, A, r⟩ := A; exact ⟨q, cl, A.ext E, r⟩
theorem oA.other {ty : FieldType} {h' : Heap} {a b : Addr} {sl : Nat} {v : Value} {vs : List Value} (A : oA ty Z h b vs) (W : Wr h h' a sl v) (ne : b ≠ a) : oA ty Z h' b vs := by
  obtain ⟨q, cl, A, r⟩ := A; exact ⟨q, cl, A.other W ne, r⟩
theorem oA.keep {ty : FieldType} {h' : Heap} {a : Addr} {ws : List Addr} {vs : List Value} (A : oA ty Z h a vs) (K : Keep h h' ws) (ne : a ∉ ws) : oA ty Z h' a vs := by
  obtain ⟨q, cl, A, r⟩ := A; exact ⟨q, cl, ⟨K.2.1 a cl A.1 ne, A.2⟩, r⟩
theorem oA.lt {ty : FieldType} {a : Addr} {vs : List Value} (A : oA ty Z h a vs) : a < h.size := by
  obtain ⟨q, cl, A, r⟩ := A; exact A.lt
theorem oA.same {ty : FieldType} {h' : Heap} {a : Addr} {j : Nat} {v : Value} {vs : List Value} (A : oA ty Z h a vs) (W : Wr h h' a j v) : oA ty Z h' a (vs.set j v) := by
  obtain ⟨q, cl, A, r⟩ := A
  refine ⟨by rw [List.length_set]; exact q, _, A.same W, ?_⟩
  show cl.slots.setIfInBounds j v = _
  rw [r, List.setIfInBounds_toArray]
theorem o_inb {cl : Cell} {vs : List Value} {j : Int32} {i : Nat} (r : cl.slots = vs.toArray) (h0 : j.toInt = (i : Int)) (h1 : i < vs.length) : ¬ (j < 0 ∨ cl.slots.size ≤ j.toNatClampNeg) := by
  have e0 : (0 : Int32).toInt = 0 := rfl
  have e1 : cl.slots.size = vs.length := by rw [r]; simp
  rw [Int32.lt_iff_toInt_lt, e0, e1]
  simp only [Int32.toNatClampNeg]; omega
theorem o_nat {j : Int32} {i : Nat} (h0 : j.toInt = (i : Int)) : j.toNatClampNeg = i := by
  simp only [Int32.toNatClampNeg]; omega
theorem o_elt {cl : Cell} {vs : List Value} {j : Int32} {i : Nat} {v : Value} (r : cl.slots = vs.toArray) (h0 : j.toInt = (i : Int)) (hv : vs[i]? = some v) : cl.slots[j.toNatClampNeg]? = some v := by
  rw [r, o_nat h0]; simpa using hv
theorem o_lt_of {vs : List Value} {i : Nat} {v : Value} (hv : vs[i]? = some v) : i < vs.length := (List.getElem?_eq_some_iff.mp hv).1
theorem o_newarr (H : oH p l e R s m args below meth c bc ml y rt Z n0 T h cells slots) {aty : ArrayType} {z : Int32} (cap n : Nat) (w : (Jvm.Cond.arrayClass (newarray.typeOf aty)).before a0 Z = true) (hz : z.toInt = (n : Int)) (hcap : n ≤ cap) (hb8 : cap * 8 ≤ 536870912) (hd : decode bc pc = .ok (.newarray aty, 2)) (hp : pc + 2 = pc') (hc : cells + 1 ≤ R.cells) (hl : slots + cap ≤ R.slots)
    (k : ∀ (T' : State) (h' : Heap) (a : Addr), a = h.size → oH p l e R s m args below meth c bc ml y rt Z n0 T' h' (cells + 1) (slots + cap) → Ext h h' → oA (newarray.typeOf aty) Z h' a (List.replicate n (defaultValue (newarray.typeOf aty))) → oG p e below s n0 kc ks Q (T'.setTop (mkF m pc' L (.ref a :: S)))) : oG p e below s n0 kc ks Q (T.setTop (mkF m pc L (.int z :: S))) := by
  obtain ⟨locs, X, eT, N, hx, hby, hml, hZ, hown, hnm, hret, hlk, hn⟩ := H
  subst hp
  have e0 : (0 : Int32).toInt = 0 := rfl
  obtain ⟨T', h', kk, X', e', E, A, st⟩ := newP X hx hZ w eT (g := mkF m pc L (.int z :: S)) rfl (hb hby hd) rfl (by rw [Int32.lt_iff_toInt_lt, e0]; omega) (cap := cap) (by simp only [Int32.toNatClampNeg]; omega) hb8 hc hl
  refine oG.go st (k T' h' _ rfl ⟨locs, X', e', N, hx, hby, hml, hZ, hown, hnm, hret, hlk, hn⟩ E ⟨?_, _, A, ?_⟩)
  · have := Int32.toInt_lt z
    rw [List.length_replicate]; omega
  · show Array.replicate z.toNatClampNeg _ = _
    rw [o_nat hz, ← List.toArray_replicate]
theorem o_iaload (H : oH p l e R s m args below meth c bc ml y rt Z n0 T h cells slots) {a : Addr} {j : Int32} {vs : List Value} (i : Nat) (v : Value) (A : oA .int Z h a vs) (h0 : j.toInt = (i : Int)) (hv : vs[i]? = some v) (hd : decode bc pc = .ok (.iaload, 1)) (hp : pc + 1 = pc') (k : oG p e below s n0 kc ks Q (T.setTop (mkF m pc' L (v :: S)))) : oG p e below s n0 kc ks Q (T.setTop (mkF m pc L (.int j :: .ref a :: S))) := by
  obtain ⟨locs, X, eT, N, hx, hby, hml, hZ, hown, hnm, hret, hlk, hn⟩ := H
  subst hp
  obtain ⟨-, cl, A, r⟩ := A
  exact oG.go (fun t hr => X.iaload hx (j := j) (v := v) (by rw [eT]; exact A.1) (State.isArrayOf_alike hZ.alike A.2.1) A.2.2 (o_inb r h0 (o_lt_of hv)) (o_elt r h0 hv) (g := mkF m pc L (.int j :: .ref a :: S)) rfl rfl (hb hby hd) t hr) k
theorem o_caload (H : oH p l e R s m args below meth c bc ml y rt Z n0 T h cells slots) {a : Addr} {j : Int32} {vs : List Value} (i : Nat) (v : Value) (A : oA .char Z h a vs) (h0 : j.toInt = (i : Int)) (hv : vs[i]? = some v) (hd : decode bc pc = .ok (.caload, 1)) (hp : pc + 1 = pc') (k : oG p e below s n0 kc ks Q (T.setTop (mkF m pc' L (v :: S)))) : oG p e below s n0 kc ks Q (T.setTop (mkF m pc L (.int j :: .ref a :: S))) := by
  obtain ⟨locs, X, eT, N, hx, hby, hml, hZ, hown, hnm, hret, hlk, hn⟩ := H
  subst hp
  obtain ⟨-, cl, A, r⟩ := A
  exact oG.go (fun t hr => X.caload hx (j := j) (v := v) (by rw [eT]; exact A.1) (State.isArrayOf_alike hZ.alike A.2.1) A.2.2 (o_inb r h0 (o_lt_of hv)) (o_elt r h0 hv) (g := mkF m pc L (.int j :: .ref a :: S)) rfl rfl (hb hby hd) t hr) k
theorem o_baload (H : oH p l e R s m args below meth c bc ml y rt Z n0 T h cells slots) {a : Addr} {j : Int32} {vs : List Value} (i : Nat) (v : Value) (A : oA .byte Z h a vs) (h0 : j.toInt = (i : Int)) (hv : vs[i]? = some v) (hd : decode bc pc = .ok (.baload, 1)) (hp : pc + 1 = pc') (k : oG p e below s n0 kc ks Q (T.setTop (mkF m pc' L (v :: S)))) : oG p e below s n0 kc ks Q (T.setTop (mkF m pc L (.int j :: .ref a :: S))) := by
  obtain ⟨locs, X, eT, N, hx, hby, hml, hZ, hown, hnm, hret, hlk, hn⟩ := H
  subst hp
  obtain ⟨-, cl, A, r⟩ := A
  exact oG.go (fun t hr => X.baloadBytes hx (j := j) (v := v) (by rw [eT]; exact A.1) (State.isArrayOf_alike hZ.alike A.2.1) A.2.2 (o_inb r h0 (o_lt_of hv)) (o_elt r h0 hv) (g := mkF m pc L (.int j :: .ref a :: S)) rfl rfl (hb hby hd) t hr) k
theorem o_laload (H : oH p l e R s m args below meth c bc ml y rt Z n0 T h cells slots) {a : Addr} {j : Int32} {vs : List Value} (i : Nat) (v : Value) (A : oA .long Z h a vs) (h0 : j.toInt = (i : Int)) (hv : vs[i]? = some v) (hd : decode bc pc = .ok (.laload, 1)) (hp : pc + 1 = pc') (k : oG p e below s n0 kc ks Q (T.setTop (mkF m pc' L (v :: S)))) : oG p e below s n0 kc ks Q (T.setTop (mkF m pc L (.int j :: .ref a :: S))) := by
  obtain ⟨locs, X, eT, N, hx, hby, hml, hZ, hown, hnm, hret, hlk, hn⟩ := H
  subst hp
  obtain ⟨-, cl, A, r⟩ := A
  exact oG.go (fun t hr => X.laload hx (j := j) (v := v) (by rw [eT]; exact A.1) (State.isArrayOf_alike hZ.alike A.2.1) A.2.2 (o_inb r h0 (o_lt_of hv)) (o_elt r h0 hv) (g := mkF m pc L (.int j :: .ref a :: S)) rfl rfl (hb hby hd) t hr) k
theorem o_arraylength (H : oH p l e R s m args below meth c bc ml y rt Z n0 T h cells slots) {a : Addr} {ty : FieldType} {vs : List Value} (z : Int32) (A : oA ty Z h a vs) (hz : vs.length.toInt32 = z) (hd : decode bc pc = .ok (.arraylength, 1)) (hp : pc + 1 = pc') (k : oG p e below s n0 kc ks Q (T.setTop (mkF m pc' L (.int z :: S)))) : oG p e below s n0 kc ks Q (T.setTop (mkF m pc L (.ref a :: S))) := by
  obtain ⟨locs, X, eT, N, hx, hby, hml, hZ, hown, hnm, hret, hlk, hn⟩ := H
  subst hp
  obtain ⟨-, cl, A, r⟩ := A
  have e1 : cl.slots.size.toInt32 = z := by rw [← hz, r]; simp
  exact oG.go (fun t hr => X.arraylength hx (by rw [eT]; exact A.1) (State.isArrayOf_alike hZ.alike A.2.1) (g := mkF m pc L (.ref a :: S)) rfl rfl (hb hby hd) t (by rw [e1]; exact hr)) k
theorem o_iastore (H : oH p l e R s m args below meth c bc ml y rt Z n0 T h cells slots) {a : Addr} {j : Int32} {z : Int32} {vs : List Value} (i : Nat) (A : oA .int Z h a vs) (h0 : j.toInt = (i : Int)) (h1 : i < vs.length) (ha : n0 ≤ a) (hd : decode bc pc = .ok (.iastore, 1)) (hp : pc + 1 = pc')
    (k : ∀ (T' : State) (h' : Heap), oH p l e R s m args below meth c bc ml y rt Z n0 T' h' cells slots → Wr h h' a i (.int z) → oA .int Z h' a (vs.set i (.int z)) → oG p e below s n0 kc ks Q (T'.setTop (mkF m pc' L S))) : oG p e below s n0 kc ks Q (T.setTop (mkF m pc L (.int z :: .int j :: .ref a :: S))) := by
  obtain ⟨locs, X, eT, N, hx, hby, hml, hZ, hown, hnm, hret, hlk, hn⟩ := H
  subst hp
  have A' := A
  obtain ⟨-, cl, A, r⟩ := A
  obtain ⟨T', h', X', e', W, st⟩ := stI X hx hZ eT A (j := j) (o_inb r h0 h1) (g := mkF m pc L (.int z :: .int j :: .ref a :: S)) rfl rfl (hb hby hd)
  have en := o_nat h0
  have W2 : Wr h h' a i _ := en ▸ W
  exact oG.go st (k T' h' ⟨_, X', e', Fr.snoc X' N ha, hx, hby, hml, hZ, hown, hnm, hret, hlk, hn⟩ W2 (A'.same W2))
theorem o_castore (H : oH p l e R s m args below meth c bc ml y rt Z n0 T h cells slots) {a : Addr} {j : Int32} {z : Int32} {vs : List Value} (i : Nat) (A : oA .char Z h a vs) (h0 : j.toInt = (i : Int)) (h1 : i < vs.length) (ha : n0 ≤ a) (hd : decode bc pc = .ok (.castore, 1)) (hp : pc + 1 = pc')
    (k : ∀ (T' : State) (h' : Heap), oH p l e R s m args below meth c bc ml y rt Z n0 T' h' cells slots → Wr h h' a i (.int (nar .char z)) → oA .char Z h' a (vs.set i (.int (nar .char z))) → oG p e below s n0 kc ks Q (T'.setTop (mkF m pc' L S))) : oG p e below s n0 kc ks Q (T.setTop (mkF m pc L (.int z :: .int j :: .ref a :: S))) := by
  obtain ⟨locs, X, eT, N, hx, hby, hml, hZ, hown, hnm, hret, hlk, hn⟩ := H
  subst hp
  have A' := A
  obtain ⟨-, cl, A, r⟩ := A
  obtain ⟨T', h', X', e', W, st⟩ := stC X hx hZ eT A (j := j) (o_inb r h0 h1) (g := mkF m pc L (.int z :: .int j :: .ref a :: S)) rfl rfl (hb hby hd)
  have en := o_nat h0
  have W2 : Wr h h' a i _ := en ▸ W
  exact oG.go st (k T' h' ⟨_, X', e', Fr.snoc X' N ha, hx, hby, hml, hZ, hown, hnm, hret, hlk, hn⟩ W2 (A'.same W2))
theorem o_bastore (H : oH p l e R s m args below meth c bc ml y rt Z n0 T h cells slots) {a : Addr} {j : Int32} {z : Int32} {vs : List Value} (i : Nat) (A : oA .byte Z h a vs) (h0 : j.toInt = (i : Int)) (h1 : i < vs.length) (ha : n0 ≤ a) (hd : decode bc pc = .ok (.bastore, 1)) (hp : pc + 1 = pc')
    (k : ∀ (T' : State) (h' : Heap), oH p l e R s m args below meth c bc ml y rt Z n0 T' h' cells slots → Wr h h' a i (.int (nar .byte z)) → oA .byte Z h' a (vs.set i (.int (nar .byte z))) → oG p e below s n0 kc ks Q (T'.setTop (mkF m pc' L S))) : oG p e below s n0 kc ks Q (T.setTop (mkF m pc L (.int z :: .int j :: .ref a :: S))) := by
  obtain ⟨locs, X, eT, N, hx, hby, hml, hZ, hown, hnm, hret, hlk, hn⟩ := H
  subst hp
  have A' := A
  obtain ⟨-, cl, A, r⟩ := A
  obtain ⟨T', h', X', e', W, st⟩ := stB X hx hZ eT A (j := j) (o_inb r h0 h1) (g := mkF m pc L (.int z :: .int j :: .ref a :: S)) rfl rfl (hb hby hd)
  have en := o_nat h0
  have W2 : Wr h h' a i _ := en ▸ W
  exact oG.go st (k T' h' ⟨_, X', e', Fr.snoc X' N ha, hx, hby, hml, hZ, hown, hnm, hret, hlk, hn⟩ W2 (A'.same W2))
theorem o_lastore (H : oH p l e R s m args below meth c bc ml y rt Z n0 T h cells slots) {a : Addr} {j : Int32} {z : Int64} {vs : List Value} (i : Nat) (A : oA .long Z h a vs) (h0 : j.toInt = (i : Int)) (h1 : i < vs.length) (ha : n0 ≤ a) (hd : decode bc pc = .ok (.lastore, 1)) (hp : pc + 1 = pc')
    (k : ∀ (T' : State) (h' : Heap), oH p l e R s m args below meth c bc ml y rt Z n0 T' h' cells slots → Wr h h' a i (.long z) → oA .long Z h' a (vs.set i (.long z)) → oG p e below s n0 kc ks Q (T'.setTop (mkF m pc' L S))) : oG p e below s n0 kc ks Q (T.setTop (mkF m pc L (.long z :: .int j :: .ref a :: S))) := by
  obtain ⟨locs, X, eT, N, hx, hby, hml, hZ, hown, hnm, hret, hlk, hn⟩ := H
  subst hp
  have A' := A
  obtain ⟨-, cl, A, r⟩ := A
  obtain ⟨T', h', X', e', W, st⟩ := stJ X hx hZ eT A (j := j) (o_inb r h0 h1) (g := mkF m pc L (.long z :: .int j :: .ref a :: S)) rfl rfl (hb hby hd)
  have en := o_nat h0
  have W2 : Wr h h' a i _ := en ▸ W
  exact oG.go st (k T' h' ⟨_, X', e', Fr.snoc X' N ha, hx, hby, hml, hZ, hown, hnm, hret, hlk, hn⟩ W2 (A'.same W2))
theorem o_static (H : oH p l e R s m args below meth c bc ml y rt Z n0 T h cells slots) {yc : MethodName} {bcc : ByteArray} {maxL i : Nat} {rtc : Option FieldType} {rm : Room} {Q' : Option Value → Heap → Prop} {St : List Value} (argsL : List Value) (S : List Value)
    (con : oC l Z n0 yc bcc maxL rtc rm rm.cells rm.slots argsL.toArray h Q') (wl : (Jvm.Cond.methodLink y.cls i yc).before a0 Z = true) (ws : (Jvm.Cond.static yc).before a0 Z = true) (wz : (Jvm.Cond.initialized yc.cls).before a0 Z = true) (wc : (Jvm.Cond.code yc bcc maxL rtc).before a0 Z = true) (hy : yc.cls ≠ "java/lang/invoke/MethodHandle" ∧ yc.cls ≠ "java/lang/invoke/VarHandle") (hlen : ∀ sig, parseMethodDescriptor yc.desc = some sig → argsL.length = sig.parameters.length) (hst : St = argsL.reverse ++ S) (hsz : L.size = ml) (hf : rm.frames + 1 ≤ R.frames) (hlo : (S.map fun v => v.category).sum + (maxL + 11) + rm.locals ≤ R.locals) (hc : cells + rm.cells ≤ R.cells) (hs : slots + rm.slots ≤ R.slots)
    (hd : decode bc pc = .ok (.invokestatic i, 3)) (hp : pc + 3 = pc') (k : ∀ (T' : State) (v : Option Value) (h' : Heap), oH p l e R s m args below meth c bc ml y rt Z n0 T' h' (cells + rm.cells) (slots + rm.slots) → Q' v h' → oG p e below s n0 kc ks Q (T'.setTop (mkF m pc' L (v.toList ++ S)))) : oG p e below s n0 kc ks Q (T.setTop (mkF m pc L St)) := by
  obtain ⟨locs, X, eT, N, hx, hby, hml, hZ, hown, hnm, hret, hlk, hn⟩ := H
  subst hp
  subst hst
  obtain ⟨v, _, ⟨T', L1, k1, n1⟩, -, X', ⟨Lc, hQ, l', y', z'⟩, st⟩ := Jvm.LawKit.callS X hx (y := yc) hown (mvT hZ wl) (mvT hZ ws) (mvT hZ wz) (mvT hZ wc) hy (backOf (W := (S.map fun v => v.category).sum) (Q := fun v h L => Q' v h ∧ Fr n0 L) (con []) hZ wc wz hf hlo) (g := mkF m pc L (argsL.reverse ++ S)) rfl (by rw [hml]; exact hsz) (argsL := argsL) (rest := S) hlen rfl (by show 2 * 0 + _ ≤ _; omega) (hb hby hd) (fun _ _ => ⟨rfl, eT, hc, hs⟩)
  dsimp only [Pt.U, Pt.locs, Pt.cells, Pt.slots] at X' l' y' z' st hQ
  subst l' y' z'
  exact oG.go (st) (k _ _ _ ⟨_, X', rfl, Fr.app N hQ.2, hx, hby, hml, hZ, hown, hnm, hret, hlk, hn⟩ hQ.1)
theorem o_special (H : oH p l e R s m args below meth c bc ml y rt Z n0 T h cells slots) {yc : MethodName} {bcc : ByteArray} {maxL i : Nat} {rm : Room} {a : Addr} {Q' : Option Value → Heap → Prop} {St : List Value} (argsL : List Value) (S : List Value)
    (con : oC l Z n0 yc bcc maxL none rm rm.cells rm.slots (.ref a :: argsL).toArray h Q') (hy1 : yc.name = "<init>") (wl : (Jvm.Cond.methodLink y.cls i yc).before a0 Z = true) (ws : (Jvm.Cond.instanceMethod yc).before a0 Z = true) (wz : (Jvm.Cond.initialized yc.cls).before a0 Z = true) (wc : (Jvm.Cond.code yc bcc maxL none).before a0 Z = true) (hy : yc.cls ≠ "java/lang/invoke/MethodHandle" ∧ yc.cls ≠ "java/lang/invoke/VarHandle") (hlen : ∀ sig, parseMethodDescriptor yc.desc = some sig → argsL.length = sig.parameters.length) (hst : St = argsL.reverse ++ .ref a :: S) (hsz : L.size = ml) (hf : rm.frames + 1 ≤ R.frames) (hlo : (S.map fun v => v.category).sum + (maxL + 11) + rm.locals ≤ R.locals) (hc : cells + rm.cells ≤ R.cells) (hs : slots + rm.slots ≤ R.slots)
    (hd : decode bc pc = .ok (.invokespecial i, 3)) (hp : pc + 3 = pc') (k : ∀ (T' : State) (v : Option Value) (h' : Heap), oH p l e R s m args below meth c bc ml y rt Z n0 T' h' (cells + rm.cells) (slots + rm.slots) → Q' v h' → oG p e below s n0 kc ks Q (T'.setTop (mkF m pc' L (v.toList ++ S)))) : oG p e below s n0 kc ks Q (T.setTop (mkF m pc L St)) := by
  obtain ⟨locs, X, eT, N, hx, hby, hml, hZ, hown, hnm, hret, hlk, hn⟩ := H
  subst hp
  subst hst
  obtain ⟨v, _, ⟨T', L1, k1, n1⟩, -, X', ⟨Lc, hQ, l', y', z'⟩, st⟩ := X.specialBack hx (y := yc) hy1 hown (mvT hZ wl) (mvT hZ ws) (mvT hZ wc) hy (backOf (W := (S.map fun v => v.category).sum) (Q := fun v h L => Q' v h ∧ Fr n0 L) (con []) hZ wc wz hf hlo) (g := mkF m pc L (argsL.reverse ++ .ref a :: S)) rfl (by rw [hml]; exact hsz) (Steps.refl _) (a := a) (argsL := argsL) (rest := S) hlen rfl (by show 2 * 0 + _ ≤ _; omega) (hb hby hd) (fun _ _ => ⟨rfl, eT, hc, hs⟩)
  dsimp only [Pt.U, Pt.locs, Pt.cells, Pt.slots] at X' l' y' z' st hQ
  subst l' y' z'
  exact oG.go (fun _ hr => st.trans hr) (k _ _ _ ⟨_, X', rfl, Fr.app N hQ.2, hx, hby, hml, hZ, hown, hnm, hret, hlk, hn⟩ hQ.1)
theorem o_virtual (H : oH p l e R s m args below meth c bc ml y rt Z n0 T h cells slots) {yc zc : MethodName} {K : String} {bcc : ByteArray} {maxL i : Nat} {rtc : Option FieldType} {rm : Room} {a : Addr} {Q' : Option Value → Heap → Prop} {St : List Value} (argsL : List Value) (S : List Value)
    (con : oC l Z n0 zc bcc maxL rtc rm rm.cells rm.slots (.ref a :: argsL).toArray h Q') (E : Exa Z h a K) (wl : (Jvm.Cond.methodLink y.cls i yc).before a0 Z = true) (wd : (Jvm.Cond.declares yc).before a0 Z = true) (hnf : ∀ {s' : State}, Z.Warmed39 s'.vm → NotFace s' yc) (wsel : (Jvm.Cond.selects K yc zc).before a0 Z = true) (ws : (Jvm.Cond.instanceMethod zc).before a0 Z = true) (wz : (Jvm.Cond.initialized zc.cls).before a0 Z = true) (wc : (Jvm.Cond.code zc bcc maxL rtc).before a0 Z = true) (hy : yc.cls ≠ "java/lang/invoke/MethodHandle" ∧ yc.cls ≠ "java/lang/invoke/VarHandle") (hlen : ∀ sig, parseMethodDescriptor yc.desc = some sig → argsL.length = sig.parameters.length) (hst : St = argsL.reverse ++ .ref a :: S) (hsz : L.size = ml) (hf : rm.frames + 1 ≤ R.frames) (hlo : (S.map fun v => v.category).sum + (maxL + 11) + rm.locals ≤ R.locals) (hc : cells + rm.cells ≤ R.cells) (hs : slots + rm.slots ≤ R.slots)
    (hd : decode bc pc = .ok (.invokevirtual i, 3)) (hp : pc + 3 = pc') (k : ∀ (T' : State) (v : Option Value) (h' : Heap), oH p l e R s m args below meth c bc ml y rt Z n0 T' h' (cells + rm.cells) (slots + rm.slots) → Q' v h' → oG p e below s n0 kc ks Q (T'.setTop (mkF m pc' L (v.toList ++ S)))) : oG p e below s n0 kc ks Q (T.setTop (mkF m pc L St)) := by
  obtain ⟨locs, X, eT, N, hx, hby, hml, hZ, hown, hnm, hret, hlk, hn⟩ := H
  subst hp
  subst hst
  obtain ⟨cq, kq, qa, qb, qc⟩ := isOf hZ eT E
  obtain ⟨v, _, ⟨T', L1, k1, n1⟩, -, X', ⟨Lc, hQ, l', y', z'⟩, st⟩ := X.virtualBack hx (y := yc) (z := zc) hown (mvT hZ wl) (mvT hZ wd) (hnf hZ) (mvT hZ wsel) (mvT hZ ws) hy (backOf (W := (S.map fun v => v.category).sum) (Q := fun v h L => Q' v h ∧ Fr n0 L) (con []) hZ wc wz hf hlo) qa qc (g := mkF m pc L (argsL.reverse ++ .ref a :: S)) rfl (by rw [hml]; exact hsz) (Steps.refl _) (argsL := argsL) (rest := S) hlen rfl (by show 2 * 0 + _ ≤ _; omega) (hb hby hd) (fun _ _ => ⟨rfl, eT, hc, hs⟩)
  dsimp only [Pt.U, Pt.locs, Pt.cells, Pt.slots] at X' l' y' z' st hQ
  subst l' y' z'
  exact oG.go (fun _ hr => st.trans hr) (k _ _ _ ⟨_, X', rfl, Fr.app N hQ.2, hx, hby, hml, hZ, hown, hnm, hret, hlk, hn⟩ hQ.1)
theorem o_nf {yc : MethodName} {K : String} (w : (Jvm.Cond.selects K yc yc).before a0 Z = true) : ∀ {s' : State}, Z.Warmed39 s'.vm → NotFace s' yc := fun {s'} hZ => notFace_of_selects (args := #[]) (mvT hZ w)
theorem n_lt (x z : Int32) : x < z ↔ x.toInt < z.toInt := Int32.lt_iff_toInt_lt
theorem n_eq (x z : Int32) : x = z ↔ x.toInt = z.toInt := Int32.toInt_inj.symm
theorem n_ltJ (x z : Int64) : x < z ↔ x.toInt < z.toInt := Int64.lt_iff_toInt_lt
theorem n_eqJ (x z : Int64) : x = z ↔ x.toInt = z.toInt := Int64.toInt_inj.symm
theorem n_and (x z : Int32) (h : 0 ≤ z.toInt) : 0 ≤ (x &&& z).toInt ∧ (x &&& z).toInt ≤ z.toInt := by
  have q : (x &&& z).toBitVec.toNat = x.toBitVec.toNat &&& z.toBitVec.toNat := by show (x.toBitVec &&& z.toBitVec).toNat = _; rw [BitVec.toNat_and]
  have o : x.toBitVec.toNat &&& z.toBitVec.toNat ≤ z.toBitVec.toNat := Nat.and_le_right
  have lm := z.toBitVec.isLt
  change 0 ≤ z.toBitVec.toInt at h
  show 0 ≤ (x &&& z).toBitVec.toInt ∧ (x &&& z).toBitVec.toInt ≤ z.toBitVec.toInt
  rw [BitVec.toInt_eq_toNat_cond] at h
  simp only [BitVec.toInt_eq_toNat_cond, q]
  split at h <;> (repeat' split) <;> omega
theorem n_andJ (x z : Int64) (h : 0 ≤ z.toInt) : 0 ≤ (x &&& z).toInt ∧ (x &&& z).toInt ≤ z.toInt := by
  have q : (x &&& z).toBitVec.toNat = x.toBitVec.toNat &&& z.toBitVec.toNat := by show (x.toBitVec &&& z.toBitVec).toNat = _; rw [BitVec.toNat_and]
  have o : x.toBitVec.toNat &&& z.toBitVec.toNat ≤ z.toBitVec.toNat := Nat.and_le_right
  have lm := z.toBitVec.isLt
  change 0 ≤ z.toBitVec.toInt at h
  show 0 ≤ (x &&& z).toBitVec.toInt ∧ (x &&& z).toBitVec.toInt ≤ z.toBitVec.toInt
  rw [BitVec.toInt_eq_toNat_cond] at h
  simp only [BitVec.toInt_eq_toNat_cond, q]
  split at h <;> (repeat' split) <;> omega
theorem n_rem (x z : Int32) (d : Int) (hd : 0 < d) (hz : z.toInt = d) (hx : 0 ≤ x.toInt) : (x % z).toInt = x.toInt % d := by
  rw [Int32.toInt_mod, hz, Int.tmod_eq_emod_of_nonneg hx]
theorem n_nat (x : Int32) (n : Nat) (h0 : 0 ≤ x.toInt) (h1 : x.toInt < n) : ∃ i : Fin n, x = Int32.ofNat i.1 := by
  refine ⟨⟨x.toInt.toNat, by omega⟩, ?_⟩
  rw [n_eq]
  have := Int32.toInt_lt x
  have e : (Int32.ofNat x.toInt.toNat).toInt = x.toInt.toNat := Int32.toInt_ofNat_of_lt (by omega)
  show x.toInt = (Int32.ofNat x.toInt.toNat).toInt
  rw [e]; omega
end Own
theorem w0 {Z : State} {a0 : Array Value} (hw : ∀ d ∈ tables_1, d.before a0 Z = true) : (Jvm.Cond.arrayClass Jvm.ClassFile.FieldType.int).before a0 Z = true := hw _ (List.mem_of_getElem? (i := 0) rfl)
theorem w1 {Z : State} {a0 : Array Value} (hw : ∀ d ∈ tables_1, d.before a0 Z = true) : (Jvm.Cond.constant "com/example/following_sibling/followingsibling/XmlScannerIsXmlCharacterPinLaw" (7 : Nat) (55295 : Int32)).before a0 Z = true := hw _ (List.mem_of_getElem? (i := 1) rfl)
theorem w2 {Z : State} {a0 : Array Value} (hw : ∀ d ∈ tables_1, d.before a0 Z = true) : (Jvm.Cond.constant "com/example/following_sibling/followingsibling/XmlScannerIsXmlCharacterPinLaw" (8 : Nat) (57344 : Int32)).before a0 Z = true := hw _ (List.mem_of_getElem? (i := 2) rfl)
theorem w3 {Z : State} {a0 : Array Value} (hw : ∀ d ∈ tables_1, d.before a0 Z = true) : (Jvm.Cond.constant "com/example/following_sibling/followingsibling/XmlScannerIsXmlCharacterPinLaw" (9 : Nat) (65533 : Int32)).before a0 Z = true := hw _ (List.mem_of_getElem? (i := 3) rfl)
theorem w4 {Z : State} {a0 : Array Value} (hw : ∀ d ∈ tables_1, d.before a0 Z = true) : (Jvm.Cond.constant "com/example/following_sibling/followingsibling/XmlScannerIsXmlCharacterPinLaw" (10 : Nat) (65536 : Int32)).before a0 Z = true := hw _ (List.mem_of_getElem? (i := 4) rfl)
theorem w5 {Z : State} {a0 : Array Value} (hw : ∀ d ∈ tables_1, d.before a0 Z = true) : (Jvm.Cond.constant "com/example/following_sibling/followingsibling/XmlScannerIsXmlCharacterPinLaw" (11 : Nat) (1114111 : Int32)).before a0 Z = true := hw _ (List.mem_of_getElem? (i := 5) rfl)
theorem w6 {Z : State} {a0 : Array Value} (hw : ∀ d ∈ tables_1, d.before a0 Z = true) : (Jvm.Cond.constant "com/example/following_sibling/followingsibling/XmlScannerIsXmlCharacterPinLaw" (14 : Nat) (2147483647 : Int32)).before a0 Z = true := hw _ (List.mem_of_getElem? (i := 6) rfl)
theorem w7 {Z : State} {a0 : Array Value} (hw : ∀ d ∈ tables_1, d.before a0 Z = true) : (Jvm.Cond.constant "com/example/following_sibling/followingsibling/XmlScannerIsXmlCharacterPinLaw" (15 : Nat) (-2147483648 : Int32)).before a0 Z = true := hw _ (List.mem_of_getElem? (i := 7) rfl)
theorem w8 {Z : State} {a0 : Array Value} (hw : ∀ d ∈ tables_1, d.before a0 Z = true) : (Jvm.Cond.methodLink "com/example/following_sibling/followingsibling/XmlScannerIsXmlCharacterPinLaw" (16 : Nat) ({ cls := "com/example/following_sibling/followingsibling/XmlScannerIsXmlCharacterPinLaw", name := "in", desc := "(III)Z" } : Jvm.MethodName)).before a0 Z = true := hw _ (List.mem_of_getElem? (i := 8) rfl)
theorem w9 {Z : State} {a0 : Array Value} (hw : ∀ d ∈ tables_1, d.before a0 Z = true) : (Jvm.Cond.static ({ cls := "com/example/following_sibling/followingsibling/XmlScannerIsXmlCharacterPinLaw", name := "in", desc := "(III)Z" } : Jvm.MethodName)).before a0 Z = true := hw _ (List.mem_of_getElem? (i := 9) rfl)
theorem w10 {Z : State} {a0 : Array Value} (hw : ∀ d ∈ tables_1, d.before a0 Z = true) : (Jvm.Cond.initialized "com/example/following_sibling/followingsibling/XmlScannerIsXmlCharacterPinLaw").before a0 Z = true := hw _ (List.mem_of_getElem? (i := 10) rfl)
theorem w11 {Z : State} {a0 : Array Value} (hw : ∀ d ∈ tables_1, d.before a0 Z = true) : (Jvm.Cond.code ({ cls := "com/example/following_sibling/followingsibling/XmlScannerIsXmlCharacterPinLaw", name := "in", desc := "(III)Z" } : Jvm.MethodName) method_3_code (3 : Nat) (Option.some Jvm.ClassFile.FieldType.boolean)).before a0 Z = true := hw _ (List.mem_of_getElem? (i := 11) rfl)
theorem w12 {Z : State} {a0 : Array Value} (hw : ∀ d ∈ tables_1, d.before a0 Z = true) : (Jvm.Cond.methodLink "com/example/following_sibling/followingsibling/XmlScannerIsXmlCharacterPinLaw" (22 : Nat) ({ cls := "com/example/following_sibling/followingsibling/XmlScanner", name := "isXmlCharacter", desc := "(I)Z" } : Jvm.MethodName)).before a0 Z = true := hw _ (List.mem_of_getElem? (i := 12) rfl)
theorem w13 {Z : State} {a0 : Array Value} (hw : ∀ d ∈ tables_1, d.before a0 Z = true) : (Jvm.Cond.static ({ cls := "com/example/following_sibling/followingsibling/XmlScanner", name := "isXmlCharacter", desc := "(I)Z" } : Jvm.MethodName)).before a0 Z = true := hw _ (List.mem_of_getElem? (i := 13) rfl)
theorem w14 {Z : State} {a0 : Array Value} (hw : ∀ d ∈ tables_1, d.before a0 Z = true) : (Jvm.Cond.initialized "com/example/following_sibling/followingsibling/XmlScanner").before a0 Z = true := hw _ (List.mem_of_getElem? (i := 14) rfl)
theorem w15 {Z : State} {a0 : Array Value} (hw : ∀ d ∈ tables_1, d.before a0 Z = true) : (Jvm.Cond.code ({ cls := "com/example/following_sibling/followingsibling/XmlScanner", name := "isXmlCharacter", desc := "(I)Z" } : Jvm.MethodName) prog_163_method_23_code (1 : Nat) (Option.some Jvm.ClassFile.FieldType.boolean)).before a0 Z = true := hw _ (List.mem_of_getElem? (i := 15) rfl)
theorem w16 {Z : State} {a0 : Array Value} (hw : ∀ d ∈ tables_1, d.before a0 Z = true) : (Jvm.Cond.constant "com/example/following_sibling/followingsibling/XmlScanner" (150 : Nat) (55295 : Int32)).before a0 Z = true := hw _ (List.mem_of_getElem? (i := 16) rfl)
theorem w17 {Z : State} {a0 : Array Value} (hw : ∀ d ∈ tables_1, d.before a0 Z = true) : (Jvm.Cond.constant "com/example/following_sibling/followingsibling/XmlScanner" (151 : Nat) (57344 : Int32)).before a0 Z = true := hw _ (List.mem_of_getElem? (i := 17) rfl)
theorem w18 {Z : State} {a0 : Array Value} (hw : ∀ d ∈ tables_1, d.before a0 Z = true) : (Jvm.Cond.constant "com/example/following_sibling/followingsibling/XmlScanner" (152 : Nat) (65533 : Int32)).before a0 Z = true := hw _ (List.mem_of_getElem? (i := 18) rfl)
theorem w19 {Z : State} {a0 : Array Value} (hw : ∀ d ∈ tables_1, d.before a0 Z = true) : (Jvm.Cond.constant "com/example/following_sibling/followingsibling/XmlScanner" (38 : Nat) (65536 : Int32)).before a0 Z = true := hw _ (List.mem_of_getElem? (i := 19) rfl)
theorem w20 {Z : State} {a0 : Array Value} (hw : ∀ d ∈ tables_1, d.before a0 Z = true) : (Jvm.Cond.constant "com/example/following_sibling/followingsibling/XmlScanner" (153 : Nat) (1114111 : Int32)).before a0 Z = true := hw _ (List.mem_of_getElem? (i := 20) rfl)
def own_in (c a b : Int32) : Int32 := if c < a then 0 else if b < c then 0 else 1
def own_exp (c : Int32) : Int32 := if ¬ own_in c 9 9 = 0 then 1 else if ¬ own_in c 10 10 = 0 then 1 else if ¬ own_in c 13 13 = 0 then 1 else if ¬ own_in c 32 55295 = 0 then 1 else if ¬ own_in c 57344 65533 = 0 then 1 else if own_in c 65536 1114111 = 0 then 0 else 1
def own_xml (c : Int32) : Int32 := if c < 32 then (if c = 10 then 1 else if c = 9 then 1 else if c = 13 then 1 else 0) else if ¬ 55295 < c then 1 else if ¬ c < 57344 ∧ ¬ 65533 < c then 1 else if c < 65536 then 0 else if 1114111 < c then 0 else 1
theorem own_key (c a b : Int32) : own_in c a b = 0 ↔ ¬ (a.toInt ≤ c.toInt ∧ c.toInt ≤ b.toInt) := by
  simp only [own_in, n_lt]
  by_cases q1 : c.toInt < a.toInt
  · simp only [q1, if_true]; constructor
    · intro _; omega
    · intro _; trivial
  · by_cases q2 : b.toInt < c.toInt
    · simp only [q1, q2, if_true, if_false]; constructor
      · intro _; omega
      · intro _; trivial
    · simp only [q1, q2, if_false]; constructor
      · intro h; exact absurd h (by decide)
      · intro h; omega
def own_P (z : Int) : Prop := z = 9 ∨ z = 10 ∨ z = 13 ∨ (32 ≤ z ∧ z ≤ 55295) ∨ (57344 ≤ z ∧ z ≤ 65533) ∨ (65536 ≤ z ∧ z ≤ 1114111)
theorem own_e1 (c : Int32) (h : own_P c.toInt) : own_exp c = 1 := by
  unfold own_P at h
  simp only [own_exp, own_key, Int32.reduceToInt, Classical.not_not]
  by_cases a1 : 9 ≤ c.toInt ∧ c.toInt ≤ 9
  · rw [if_pos a1]
  rw [if_neg a1]
  by_cases a2 : 10 ≤ c.toInt ∧ c.toInt ≤ 10
  · rw [if_pos a2]
  rw [if_neg a2]
  by_cases a3 : 13 ≤ c.toInt ∧ c.toInt ≤ 13
  · rw [if_pos a3]
  rw [if_neg a3]
  by_cases a4 : 32 ≤ c.toInt ∧ c.toInt ≤ 55295
  · rw [if_pos a4]
  rw [if_neg a4]
  by_cases a5 : 57344 ≤ c.toInt ∧ c.toInt ≤ 65533
  · rw [if_pos a5]
  rw [if_neg a5, if_neg (by omega)]
theorem own_e0 (c : Int32) (h : ¬ own_P c.toInt) : own_exp c = 0 := by
  unfold own_P at h
  simp only [own_exp, own_key, Int32.reduceToInt, Classical.not_not]
  rw [if_neg (by omega), if_neg (by omega), if_neg (by omega), if_neg (by omega), if_neg (by omega), if_pos (by omega)]
theorem own_q (c : Int32) : ((c = 10) = (c.toInt = 10)) ∧ ((c = 9) = (c.toInt = 9)) ∧ ((c = 13) = (c.toInt = 13)) := by
  refine ⟨propext (n_eq c 10), propext (n_eq c 9), propext (n_eq c 13)⟩
theorem own_x1 (c : Int32) (h : own_P c.toInt) : own_xml c = 1 := by
  unfold own_P at h
  simp only [own_xml, n_lt, (own_q c).1, (own_q c).2.1, (own_q c).2.2, Int32.reduceToInt]
  by_cases a1 : c.toInt < 32
  · rw [if_pos a1]
    by_cases a2 : c.toInt = 10
    · rw [if_pos a2]
    rw [if_neg a2]
    by_cases a3 : c.toInt = 9
    · rw [if_pos a3]
    rw [if_neg a3, if_pos (by omega)]
  rw [if_neg a1]
  by_cases a4 : ¬ 55295 < c.toInt
  · rw [if_pos a4]
  rw [if_neg a4]
  by_cases a5 : ¬ c.toInt < 57344 ∧ ¬ 65533 < c.toInt
  · rw [if_pos a5]
  rw [if_neg a5, if_neg (by omega), if_neg (by omega)]
theorem own_x0 (c : Int32) (h : ¬ own_P c.toInt) : own_xml c = 0 := by
  unfold own_P at h
  simp only [own_xml, n_lt, (own_q c).1, (own_q c).2.1, (own_q c).2.2, Int32.reduceToInt]
  by_cases a1 : c.toInt < 32
  · rw [if_pos a1, if_neg (by omega), if_neg (by omega), if_neg (by omega)]
  rw [if_neg a1, if_neg (by omega), if_neg (by omega)]
  by_cases a6 : c.toInt < 65536
  · rw [if_pos a6]
  rw [if_neg a6, if_pos (by omega)]
theorem own_same (c : Int32) : own_xml c = own_exp c := by
  by_cases h : own_P c.toInt
  · rw [own_x1 c h, own_e1 c h]
  · rw [own_x0 c h, own_e0 c h]
def own_e (z : Int32) : Int32 := ([0, 9, 10, 13, 32, 55295, 57344, 65533, 65536, 1114111, 2147483647, (-2147483648)] : List Int32).getD z.toInt.toNat 0
theorem own_get (l : List Int32) (i : Nat) (h : i < l.length) : (l.map Value.int)[i]? = some (.int (l.getD i 0)) := by simp [h]
theorem own_rng (b : Int32) : 0 ≤ ((b &&& 15) % 12).toInt ∧ ((b &&& 15) % 12).toInt < 12 := by
  have h1 := n_and b 15 (by decide)
  have h2 := n_rem (b &&& 15) 12 12 (by decide) rfl h1.1
  omega
theorem d1_0 : decode method_3_code 0 = .ok (.iload_n 1, 1) := by decide +kernel
theorem d1_1 : decode method_3_code 1 = .ok (.iload_n 0, 1) := by decide +kernel
theorem d1_2 : decode method_3_code 2 = .ok (.if_icmp .gt 12, 3) := by decide +kernel
theorem d1_5 : decode method_3_code 5 = .ok (.iload_n 0, 1) := by decide +kernel
theorem d1_6 : decode method_3_code 6 = .ok (.iload_n 2, 1) := by decide +kernel
theorem d1_7 : decode method_3_code 7 = .ok (.if_icmp .gt 7, 3) := by decide +kernel
theorem d1_10 : decode method_3_code 10 = .ok (.iconst 1, 1) := by decide +kernel
theorem d1_11 : decode method_3_code 11 = .ok (.goto 4, 3) := by decide +kernel
theorem d1_14 : decode method_3_code 14 = .ok (.iconst 0, 1) := by decide +kernel
theorem d1_15 : decode method_3_code 15 = .ok (.ireturn, 1) := by decide +kernel
theorem pn1 : plainFor (⟨"com/example/following_sibling/followingsibling/XmlScannerIsXmlCharacterPinLaw", "in", "(III)Z"⟩ : MethodName) = true := plainFor_of_name (by first | (simp [plainName, overriddenIn]; done) | decide +kernel)
theorem pd1 : parseMethodDescriptor "(III)Z" = some ⟨[.int, .int, .int], some .boolean⟩ := by decide +kernel
theorem d2_0 : decode prog_163_method_23_code 0 = .ok (.iload_n 0, 1) := by decide +kernel
theorem d2_1 : decode prog_163_method_23_code 1 = .ok (.bipush 32, 2) := by decide +kernel
theorem d2_3 : decode prog_163_method_23_code 3 = .ok (.if_icmp .lt 41, 3) := by decide +kernel
theorem d2_6 : decode prog_163_method_23_code 6 = .ok (.iload_n 0, 1) := by decide +kernel
theorem d2_7 : decode prog_163_method_23_code 7 = .ok (.ldc 150, 2) := by decide +kernel
theorem d2_9 : decode prog_163_method_23_code 9 = .ok (.if_icmp .le 27, 3) := by decide +kernel
theorem d2_12 : decode prog_163_method_23_code 12 = .ok (.iload_n 0, 1) := by decide +kernel
theorem d2_13 : decode prog_163_method_23_code 13 = .ok (.ldc 151, 2) := by decide +kernel
theorem d2_15 : decode prog_163_method_23_code 15 = .ok (.if_icmp .lt 9, 3) := by decide +kernel
theorem d2_18 : decode prog_163_method_23_code 18 = .ok (.iload_n 0, 1) := by decide +kernel
theorem d2_19 : decode prog_163_method_23_code 19 = .ok (.ldc 152, 2) := by decide +kernel
theorem d2_21 : decode prog_163_method_23_code 21 = .ok (.if_icmp .le 15, 3) := by decide +kernel
theorem d2_24 : decode prog_163_method_23_code 24 = .ok (.iload_n 0, 1) := by decide +kernel
theorem d2_25 : decode prog_163_method_23_code 25 = .ok (.ldc 38, 2) := by decide +kernel
theorem d2_27 : decode prog_163_method_23_code 27 = .ok (.if_icmp .lt 13, 3) := by decide +kernel
theorem d2_30 : decode prog_163_method_23_code 30 = .ok (.iload_n 0, 1) := by decide +kernel
theorem d2_31 : decode prog_163_method_23_code 31 = .ok (.ldc 153, 2) := by decide +kernel
theorem d2_33 : decode prog_163_method_23_code 33 = .ok (.if_icmp .gt 7, 3) := by decide +kernel
theorem d2_36 : decode prog_163_method_23_code 36 = .ok (.iconst 1, 1) := by decide +kernel
theorem d2_37 : decode prog_163_method_23_code 37 = .ok (.goto 30, 3) := by decide +kernel
theorem d2_40 : decode prog_163_method_23_code 40 = .ok (.iconst 0, 1) := by decide +kernel
theorem d2_41 : decode prog_163_method_23_code 41 = .ok (.goto 26, 3) := by decide +kernel
theorem d2_44 : decode prog_163_method_23_code 44 = .ok (.iload_n 0, 1) := by decide +kernel
theorem d2_45 : decode prog_163_method_23_code 45 = .ok (.bipush 10, 2) := by decide +kernel
theorem d2_47 : decode prog_163_method_23_code 47 = .ok (.if_icmp .eq 15, 3) := by decide +kernel
theorem d2_50 : decode prog_163_method_23_code 50 = .ok (.iload_n 0, 1) := by decide +kernel
theorem d2_51 : decode prog_163_method_23_code 51 = .ok (.bipush 9, 2) := by decide +kernel
theorem d2_53 : decode prog_163_method_23_code 53 = .ok (.if_icmp .eq 9, 3) := by decide +kernel
theorem d2_56 : decode prog_163_method_23_code 56 = .ok (.iload_n 0, 1) := by decide +kernel
theorem d2_57 : decode prog_163_method_23_code 57 = .ok (.bipush 13, 2) := by decide +kernel
theorem d2_59 : decode prog_163_method_23_code 59 = .ok (.if_icmp .ne 7, 3) := by decide +kernel
theorem d2_62 : decode prog_163_method_23_code 62 = .ok (.iconst 1, 1) := by decide +kernel
theorem d2_63 : decode prog_163_method_23_code 63 = .ok (.goto 4, 3) := by decide +kernel
theorem d2_66 : decode prog_163_method_23_code 66 = .ok (.iconst 0, 1) := by decide +kernel
theorem d2_67 : decode prog_163_method_23_code 67 = .ok (.ireturn, 1) := by decide +kernel
theorem pn2 : plainFor (⟨"com/example/following_sibling/followingsibling/XmlScanner", "isXmlCharacter", "(I)Z"⟩ : MethodName) = true := plainFor_of_name (by first | (simp [plainName, overriddenIn]; done) | decide +kernel)
theorem pd2 : parseMethodDescriptor "(I)Z" = some ⟨[.int], some .boolean⟩ := by decide +kernel
theorem pn0 : plainFor x = true := plainFor_of_name (by first | (simp [plainName, overriddenIn]; done) | decide +kernel)
set_option maxRecDepth 65536 in
set_option maxHeartbeats 40000000 in
theorem rm1 (l : Launch) (Z : State) (a0 : Array Value) (hw : ∀ d ∈ tables_1, d.before a0 Z = true) (p1 : Int32) (p2 : Int32) (p3 : Int32)  (h0 : Heap) (n0 : Nat) (Z0 : n0 ≤ h0.size)  :
    oC l Z n0 (⟨"com/example/following_sibling/followingsibling/XmlScannerIsXmlCharacterPinLaw", "in", "(III)Z"⟩ : MethodName) method_3_code 3 (some .boolean) ({ frames := 0, cells := 0, slots := 0, locals := 0 } : Room) 0 0 #[(.int p1), (.int p2), (.int p3)] h0 (fun v h => v = some (.int (own_in p1 p2 p3)) ∧ h0 = h) := by
  refine oC.of (L := #[.val (.int p1), .val (.int p2), .val (.int p3)]) pn1 Z0 (fun m => by first | (simp [entryFrame, mkF, argsToLocals, Value.category]; done) | rfl) ?_
  intro p e s m below meth c T H
  refine o_iloadN H rfl d1_0 rfl ?_
  refine o_iloadN H rfl d1_1 rfl ?_
  refine o_icmp_gt H d1_2 (pt := 14) (by decide) (by decide) rfl ?_ ?_
  · intro c2_1
    refine o_iconst H (0 : Int32) rfl d1_14 rfl ?_
    exact o_nreturn H .boolean rfl (by simp) d1_15 (by decide) (by decide) ⟨by simp [own_in, nar, c2_1], rfl⟩
  · intro c2_1
    refine o_iloadN H rfl d1_5 rfl ?_
    refine o_iloadN H rfl d1_6 rfl ?_
    refine o_icmp_gt H d1_7 (pt := 14) (by decide) (by decide) rfl ?_ ?_
    · intro c7_2
      refine o_iconst H (0 : Int32) rfl d1_14 rfl ?_
      exact o_nreturn H .boolean rfl (by simp) d1_15 (by decide) (by decide) ⟨by simp [own_in, nar, c2_1, c7_2], rfl⟩
    · intro c7_2
      refine o_iconst H (1 : Int32) rfl d1_10 rfl ?_
      refine o_goto H d1_11 (pt := 15) (by decide) (by decide) ?_
      exact o_nreturn H .boolean rfl (by simp) d1_15 (by decide) (by decide) ⟨by simp [own_in, nar, c2_1, c7_2], rfl⟩
set_option maxRecDepth 65536 in
set_option maxHeartbeats 40000000 in
theorem rm2 (l : Launch) (Z : State) (a0 : Array Value) (hw : ∀ d ∈ tables_1, d.before a0 Z = true) (p1 : Int32)  (h0 : Heap) (n0 : Nat) (Z0 : n0 ≤ h0.size)  :
    oC l Z n0 (⟨"com/example/following_sibling/followingsibling/XmlScanner", "isXmlCharacter", "(I)Z"⟩ : MethodName) prog_163_method_23_code 1 (some .boolean) ({ frames := 0, cells := 0, slots := 0, locals := 0 } : Room) 0 0 #[(.int p1)] h0 (fun v h => v = some (.int (own_xml p1)) ∧ h0 = h) := by
  refine oC.of (L := #[.val (.int p1)]) pn2 Z0 (fun m => by first | (simp [entryFrame, mkF, argsToLocals, Value.category]; done) | rfl) ?_
  intro p e s m below meth c T H
  refine o_iloadN H rfl d2_0 rfl ?_
  refine o_bipush H (32 : Int32) rfl d2_1 rfl ?_
  refine o_icmp_lt H d2_3 (pt := 44) (by decide) (by decide) rfl ?_ ?_
  · intro c3_1
    refine o_iloadN H rfl d2_44 rfl ?_
    refine o_bipush H (10 : Int32) rfl d2_45 rfl ?_
    refine o_icmp_eq H d2_47 (pt := 62) (by decide) (by decide) rfl ?_ ?_
    · intro c47_2
      refine o_iconst H (1 : Int32) rfl d2_62 rfl ?_
      refine o_goto H d2_63 (pt := 67) (by decide) (by decide) ?_
      exact o_nreturn H .boolean rfl (by simp) d2_67 (by decide) (by decide) ⟨by simp [own_xml, nar, c3_1, c47_2], rfl⟩
    · intro c47_2
      refine o_iloadN H rfl d2_50 rfl ?_
      refine o_bipush H (9 : Int32) rfl d2_51 rfl ?_
      refine o_icmp_eq H d2_53 (pt := 62) (by decide) (by decide) rfl ?_ ?_
      · intro c53_3
        refine o_iconst H (1 : Int32) rfl d2_62 rfl ?_
        refine o_goto H d2_63 (pt := 67) (by decide) (by decide) ?_
        exact o_nreturn H .boolean rfl (by simp) d2_67 (by decide) (by decide) ⟨by simp [own_xml, nar, c3_1, c47_2, c53_3], rfl⟩
      · intro c53_3
        refine o_iloadN H rfl d2_56 rfl ?_
        refine o_bipush H (13 : Int32) rfl d2_57 rfl ?_
        refine o_icmp_ne H d2_59 (pt := 66) (by decide) (by decide) rfl ?_ ?_
        · intro c59_4
          refine o_iconst H (0 : Int32) rfl d2_66 rfl ?_
          exact o_nreturn H .boolean rfl (by simp) d2_67 (by decide) (by decide) ⟨by simp [own_xml, nar, c3_1, c47_2, c53_3, c59_4], rfl⟩
        · intro c59_4
          refine o_iconst H (1 : Int32) rfl d2_62 rfl ?_
          refine o_goto H d2_63 (pt := 67) (by decide) (by decide) ?_
          exact o_nreturn H .boolean rfl (by simp) d2_67 (by decide) (by decide) ⟨by simp [own_xml, nar, c3_1, c47_2, c53_3, c59_4], rfl⟩
  · intro c3_1
    refine o_iloadN H rfl d2_6 rfl ?_
    refine o_ldcI H (55295 : Int32) (w16 hw) d2_7 rfl ?_
    refine o_icmp_le H d2_9 (pt := 36) (by decide) (by decide) rfl ?_ ?_
    · intro c9_5
      refine o_iconst H (1 : Int32) rfl d2_36 rfl ?_
      refine o_goto H d2_37 (pt := 67) (by decide) (by decide) ?_
      exact o_nreturn H .boolean rfl (by simp) d2_67 (by decide) (by decide) ⟨by simp [own_xml, nar, c3_1, c9_5], rfl⟩
    · intro c9_5
      refine o_iloadN H rfl d2_12 rfl ?_
      refine o_ldcI H (57344 : Int32) (w17 hw) d2_13 rfl ?_
      refine o_icmp_lt H d2_15 (pt := 24) (by decide) (by decide) rfl ?_ ?_
      · intro c15_6
        refine o_iloadN H rfl d2_24 rfl ?_
        refine o_ldcI H (65536 : Int32) (w19 hw) d2_25 rfl ?_
        refine o_icmp_lt H d2_27 (pt := 40) (by decide) (by decide) rfl ?_ ?_
        · intro c27_7
          refine o_iconst H (0 : Int32) rfl d2_40 rfl ?_
          refine o_goto H d2_41 (pt := 67) (by decide) (by decide) ?_
          exact o_nreturn H .boolean rfl (by simp) d2_67 (by decide) (by decide) ⟨by simp [own_xml, nar, c3_1, c9_5, c15_6, c27_7], rfl⟩
        · intro c27_7
          refine o_iloadN H rfl d2_30 rfl ?_
          refine o_ldcI H (1114111 : Int32) (w20 hw) d2_31 rfl ?_
          refine o_icmp_gt H d2_33 (pt := 40) (by decide) (by decide) rfl ?_ ?_
          · intro c33_8
            refine o_iconst H (0 : Int32) rfl d2_40 rfl ?_
            refine o_goto H d2_41 (pt := 67) (by decide) (by decide) ?_
            exact o_nreturn H .boolean rfl (by simp) d2_67 (by decide) (by decide) ⟨by simp [own_xml, nar, c3_1, c9_5, c15_6, c27_7, c33_8], rfl⟩
          · intro c33_8
            refine o_iconst H (1 : Int32) rfl d2_36 rfl ?_
            refine o_goto H d2_37 (pt := 67) (by decide) (by decide) ?_
            exact o_nreturn H .boolean rfl (by simp) d2_67 (by decide) (by decide) ⟨by simp [own_xml, nar, c3_1, c9_5, c15_6, c27_7, c33_8], rfl⟩
      · intro c15_6
        refine o_iloadN H rfl d2_18 rfl ?_
        refine o_ldcI H (65533 : Int32) (w18 hw) d2_19 rfl ?_
        refine o_icmp_le H d2_21 (pt := 36) (by decide) (by decide) rfl ?_ ?_
        · intro c21_9
          refine o_iconst H (1 : Int32) rfl d2_36 rfl ?_
          refine o_goto H d2_37 (pt := 67) (by decide) (by decide) ?_
          exact o_nreturn H .boolean rfl (by simp) d2_67 (by decide) (by decide) ⟨by simp [own_xml, nar, c3_1, c9_5, c15_6, c21_9], rfl⟩
        · intro c21_9
          refine o_iloadN H rfl d2_24 rfl ?_
          refine o_ldcI H (65536 : Int32) (w19 hw) d2_25 rfl ?_
          refine o_icmp_lt H d2_27 (pt := 40) (by decide) (by decide) rfl ?_ ?_
          · intro c27_10
            refine o_iconst H (0 : Int32) rfl d2_40 rfl ?_
            refine o_goto H d2_41 (pt := 67) (by decide) (by decide) ?_
            exact o_nreturn H .boolean rfl (by simp) d2_67 (by decide) (by decide) ⟨by simp [own_xml, nar, c3_1, c9_5, c15_6, c21_9, c27_10], rfl⟩
          · intro c27_10
            refine o_iloadN H rfl d2_30 rfl ?_
            refine o_ldcI H (1114111 : Int32) (w20 hw) d2_31 rfl ?_
            refine o_icmp_gt H d2_33 (pt := 40) (by decide) (by decide) rfl ?_ ?_
            · intro c33_11
              refine o_iconst H (0 : Int32) rfl d2_40 rfl ?_
              refine o_goto H d2_41 (pt := 67) (by decide) (by decide) ?_
              exact o_nreturn H .boolean rfl (by simp) d2_67 (by decide) (by decide) ⟨by simp [own_xml, nar, c3_1, c9_5, c15_6, c21_9, c27_10, c33_11], rfl⟩
            · intro c33_11
              refine o_iconst H (1 : Int32) rfl d2_36 rfl ?_
              refine o_goto H d2_37 (pt := 67) (by decide) (by decide) ?_
              exact o_nreturn H .boolean rfl (by simp) d2_67 (by decide) (by decide) ⟨by simp [own_xml, nar, c3_1, c9_5, c15_6, c21_9, c27_10, c33_11], rfl⟩
set_option maxRecDepth 65536 in
set_option maxHeartbeats 40000000 in
theorem rm0 (l : Launch) (Z : State) (a0 : Array Value) (hw : ∀ d ∈ tables_1, d.before a0 Z = true) (p1 : Int32) (p2 : Int32) (p3 : Int32)  (h0 : Heap) (n0 : Nat) (Z0 : n0 ≤ h0.size)  :
    oC l Z n0 x code maxLocals ret room_1 16 128 #[(.int p1), (.int p2), (.int p3)] h0 (fun v h => v = some (.int 1)) := by
  refine oC.of (L := #[.val (.int p1), .val (.int p2), .val (.int p3), .unset, .unset, .unset]) pn0 Z0 (fun m => by first | (simp [entryFrame, mkF, argsToLocals, Value.category, maxLocals]; done) | rfl) ?_
  intro p e s m below meth c T H
  refine o_bipush H (12 : Int32) rfl at_0 rfl ?_
  refine o_newarr (aty := .int) H 12 12 (w0 hw) (by decide) (by decide) (by decide) at_2 rfl (by decide) (by decide) ?_
  intro T1 h1 b1 g1 H1 E1 A1
  have z1 : n0 ≤ b1 := by rw [g1]; exact H.le
  have f2 : oA .int Z h1 b1 [(.int 0), (.int 0), (.int 0), (.int 0), (.int 0), (.int 0), (.int 0), (.int 0), (.int 0), (.int 0), (.int 0), (.int 0)] := A1
  refine o_dup H1 rfl at_4 rfl ?_
  refine o_iconst H1 (0 : Int32) rfl at_5 rfl ?_
  refine o_iconst H1 (0 : Int32) rfl at_6 rfl ?_
  refine o_iastore H1 0 f2 (by decide) (Nat.le_of_ble_eq_true rfl) z1 at_7 rfl ?_
  intro T3 h3 H3 W3 A3
  have f4 : oA .int Z h3 b1 [(.int (0 : Int32)), (.int 0), (.int 0), (.int 0), (.int 0), (.int 0), (.int 0), (.int 0), (.int 0), (.int 0), (.int 0), (.int 0)] := A3
  refine o_dup H3 rfl at_8 rfl ?_
  refine o_iconst H3 (1 : Int32) rfl at_9 rfl ?_
  refine o_bipush H3 (9 : Int32) rfl at_10 rfl ?_
  refine o_iastore H3 1 f4 (by decide) (Nat.le_of_ble_eq_true rfl) z1 at_12 rfl ?_
  intro T5 h5 H5 W5 A5
  have f6 : oA .int Z h5 b1 [(.int (0 : Int32)), (.int (9 : Int32)), (.int 0), (.int 0), (.int 0), (.int 0), (.int 0), (.int 0), (.int 0), (.int 0), (.int 0), (.int 0)] := A5
  refine o_dup H5 rfl at_13 rfl ?_
  refine o_iconst H5 (2 : Int32) rfl at_14 rfl ?_
  refine o_bipush H5 (10 : Int32) rfl at_15 rfl ?_
  refine o_iastore H5 2 f6 (by decide) (Nat.le_of_ble_eq_true rfl) z1 at_17 rfl ?_
  intro T7 h7 H7 W7 A7
  have f8 : oA .int Z h7 b1 [(.int (0 : Int32)), (.int (9 : Int32)), (.int (10 : Int32)), (.int 0), (.int 0), (.int 0), (.int 0), (.int 0), (.int 0), (.int 0), (.int 0), (.int 0)] := A7
  refine o_dup H7 rfl at_18 rfl ?_
  refine o_iconst H7 (3 : Int32) rfl at_19 rfl ?_
  refine o_bipush H7 (13 : Int32) rfl at_20 rfl ?_
  refine o_iastore H7 3 f8 (by decide) (Nat.le_of_ble_eq_true rfl) z1 at_22 rfl ?_
  intro T9 h9 H9 W9 A9
  have f10 : oA .int Z h9 b1 [(.int (0 : Int32)), (.int (9 : Int32)), (.int (10 : Int32)), (.int (13 : Int32)), (.int 0), (.int 0), (.int 0), (.int 0), (.int 0), (.int 0), (.int 0), (.int 0)] := A9
  refine o_dup H9 rfl at_23 rfl ?_
  refine o_iconst H9 (4 : Int32) rfl at_24 rfl ?_
  refine o_bipush H9 (32 : Int32) rfl at_25 rfl ?_
  refine o_iastore H9 4 f10 (by decide) (Nat.le_of_ble_eq_true rfl) z1 at_27 rfl ?_
  intro T11 h11 H11 W11 A11
  have f12 : oA .int Z h11 b1 [(.int (0 : Int32)), (.int (9 : Int32)), (.int (10 : Int32)), (.int (13 : Int32)), (.int (32 : Int32)), (.int 0), (.int 0), (.int 0), (.int 0), (.int 0), (.int 0), (.int 0)] := A11
  refine o_dup H11 rfl at_28 rfl ?_
  refine o_iconst H11 (5 : Int32) rfl at_29 rfl ?_
  refine o_ldcI H11 (55295 : Int32) (w1 hw) at_30 rfl ?_
  refine o_iastore H11 5 f12 (by decide) (Nat.le_of_ble_eq_true rfl) z1 at_32 rfl ?_
  intro T13 h13 H13 W13 A13
  have f14 : oA .int Z h13 b1 [(.int (0 : Int32)), (.int (9 : Int32)), (.int (10 : Int32)), (.int (13 : Int32)), (.int (32 : Int32)), (.int (55295 : Int32)), (.int 0), (.int 0), (.int 0), (.int 0), (.int 0), (.int 0)] := A13
  refine o_dup H13 rfl at_33 rfl ?_
  refine o_bipush H13 (6 : Int32) rfl at_34 rfl ?_
  refine o_ldcI H13 (57344 : Int32) (w2 hw) at_36 rfl ?_
  refine o_iastore H13 6 f14 (by decide) (Nat.le_of_ble_eq_true rfl) z1 at_38 rfl ?_
  intro T15 h15 H15 W15 A15
  have f16 : oA .int Z h15 b1 [(.int (0 : Int32)), (.int (9 : Int32)), (.int (10 : Int32)), (.int (13 : Int32)), (.int (32 : Int32)), (.int (55295 : Int32)), (.int (57344 : Int32)), (.int 0), (.int 0), (.int 0), (.int 0), (.int 0)] := A15
  refine o_dup H15 rfl at_39 rfl ?_
  refine o_bipush H15 (7 : Int32) rfl at_40 rfl ?_
  refine o_ldcI H15 (65533 : Int32) (w3 hw) at_42 rfl ?_
  refine o_iastore H15 7 f16 (by decide) (Nat.le_of_ble_eq_true rfl) z1 at_44 rfl ?_
  intro T17 h17 H17 W17 A17
  have f18 : oA .int Z h17 b1 [(.int (0 : Int32)), (.int (9 : Int32)), (.int (10 : Int32)), (.int (13 : Int32)), (.int (32 : Int32)), (.int (55295 : Int32)), (.int (57344 : Int32)), (.int (65533 : Int32)), (.int 0), (.int 0), (.int 0), (.int 0)] := A17
  refine o_dup H17 rfl at_45 rfl ?_
  refine o_bipush H17 (8 : Int32) rfl at_46 rfl ?_
  refine o_ldcI H17 (65536 : Int32) (w4 hw) at_48 rfl ?_
  refine o_iastore H17 8 f18 (by decide) (Nat.le_of_ble_eq_true rfl) z1 at_50 rfl ?_
  intro T19 h19 H19 W19 A19
  have f20 : oA .int Z h19 b1 [(.int (0 : Int32)), (.int (9 : Int32)), (.int (10 : Int32)), (.int (13 : Int32)), (.int (32 : Int32)), (.int (55295 : Int32)), (.int (57344 : Int32)), (.int (65533 : Int32)), (.int (65536 : Int32)), (.int 0), (.int 0), (.int 0)] := A19
  refine o_dup H19 rfl at_51 rfl ?_
  refine o_bipush H19 (9 : Int32) rfl at_52 rfl ?_
  refine o_ldcI H19 (1114111 : Int32) (w5 hw) at_54 rfl ?_
  refine o_iastore H19 9 f20 (by decide) (Nat.le_of_ble_eq_true rfl) z1 at_56 rfl ?_
  intro T21 h21 H21 W21 A21
  have f22 : oA .int Z h21 b1 [(.int (0 : Int32)), (.int (9 : Int32)), (.int (10 : Int32)), (.int (13 : Int32)), (.int (32 : Int32)), (.int (55295 : Int32)), (.int (57344 : Int32)), (.int (65533 : Int32)), (.int (65536 : Int32)), (.int (1114111 : Int32)), (.int 0), (.int 0)] := A21
  refine o_dup H21 rfl at_57 rfl ?_
  refine o_bipush H21 (10 : Int32) rfl at_58 rfl ?_
  refine o_ldcI H21 (2147483647 : Int32) (w6 hw) at_60 rfl ?_
  refine o_iastore H21 10 f22 (by decide) (Nat.le_of_ble_eq_true rfl) z1 at_62 rfl ?_
  intro T23 h23 H23 W23 A23
  have f24 : oA .int Z h23 b1 [(.int (0 : Int32)), (.int (9 : Int32)), (.int (10 : Int32)), (.int (13 : Int32)), (.int (32 : Int32)), (.int (55295 : Int32)), (.int (57344 : Int32)), (.int (65533 : Int32)), (.int (65536 : Int32)), (.int (1114111 : Int32)), (.int (2147483647 : Int32)), (.int 0)] := A23
  refine o_dup H23 rfl at_63 rfl ?_
  refine o_bipush H23 (11 : Int32) rfl at_64 rfl ?_
  refine o_ldcI H23 (-2147483648 : Int32) (w7 hw) at_66 rfl ?_
  refine o_iastore H23 11 f24 (by decide) (Nat.le_of_ble_eq_true rfl) z1 at_68 rfl ?_
  intro T25 h25 H25 W25 A25
  have f26 : oA .int Z h25 b1 [(.int (0 : Int32)), (.int (9 : Int32)), (.int (10 : Int32)), (.int (13 : Int32)), (.int (32 : Int32)), (.int (55295 : Int32)), (.int (57344 : Int32)), (.int (65533 : Int32)), (.int (65536 : Int32)), (.int (1114111 : Int32)), (.int (2147483647 : Int32)), (.int (-2147483648 : Int32))] := A25
  refine o_astoreN H25 (L' := #[.val (.int p1), .val (.int p2), .val (.int p3), .val (.ref b1), .unset, .unset]) rfl rfl at_69 rfl ?_
  have j27 : ∀ (cj27 : Int32), oG p e below s n0 16 128 (fun v h => v = some (.int 1)) (T25.setTop (mkF m 103 #[.val (.int p1), .val (.int p2), .val (.int p3), .val (.ref b1), .val (.int cj27), .unset] [])) := by
    intro cj27 
    have j28 : ∀ (Tj28 : State) (bj28 : Int32), oH p l e room_1 s m #[(.int p1), (.int p2), (.int p3)] below meth c code maxLocals x ret Z n0 Tj28 h25 1 12 → bj28 = own_exp cj27 → oG p e below s n0 16 128 (fun v h => v = some (.int 1)) (Tj28.setTop (mkF m 180 #[.val (.int p1), .val (.int p2), .val (.int p3), .val (.ref b1), .val (.int cj27), .unset] [(.int bj28)])) := by
      intro Tj28 bj28 Hj28 ebj28
      refine o_istore Hj28 (L' := #[.val (.int p1), .val (.int p2), .val (.int p3), .val (.ref b1), .val (.int cj27), .val (.int bj28)]) rfl at_180 rfl ?_
      refine o_iload Hj28 rfl at_182 rfl ?_
      refine o_static Hj28 [(.int cj27)] [] (rm2 l Z a0 hw cj27 h25 n0 Hj28.le) (w12 hw) (w13 hw) (w14 hw) (w15 hw) (by decide) (lenOf pd2 rfl) rfl rfl (by decide) (Nat.le_of_ble_eq_true rfl) (by decide) (by decide) at_184 rfl ?_
      intro T29 v29 h29 H29 q29
      obtain ⟨rfl, rfl⟩ := q29
      show oG p e below s n0 _ _ _ (T29.setTop (mkF m 187 #[.val (.int p1), .val (.int p2), .val (.int p3), .val (.ref b1), .val (.int cj27), .val (.int bj28)] [(.int (own_xml cj27))]))
      refine o_iload H29 rfl at_187 rfl ?_
      refine o_icmp_f H29 at_189 (XT.ii_ne_f (by rw [ebj28]; exact own_same _)) rfl ?_
      refine o_iconst H29 (1 : Int32) rfl at_192 rfl ?_
      refine o_goto H29 at_193 (pt := 197) (by decide) (by decide) ?_
      exact o_nreturn H29 .boolean rfl (by simp) at_197 (by decide) (by decide) rfl
    refine o_iload H25 rfl at_103 rfl ?_
    refine o_bipush H25 (9 : Int32) rfl at_105 rfl ?_
    refine o_bipush H25 (9 : Int32) rfl at_107 rfl ?_
    refine o_static H25 [(.int cj27), (.int (9 : Int32)), (.int (9 : Int32))] [] (rm1 l Z a0 hw cj27 (9 : Int32) (9 : Int32) h25 n0 H25.le) (w8 hw) (w9 hw) (w10 hw) (w11 hw) (by decide) (lenOf pd1 rfl) rfl rfl (by decide) (Nat.le_of_ble_eq_true rfl) (by decide) (by decide) at_109 rfl ?_
    intro T30 v30 h30 H30 q30
    obtain ⟨rfl, rfl⟩ := q30
    show oG p e below s n0 _ _ _ (T30.setTop (mkF m 112 #[.val (.int p1), .val (.int p2), .val (.int p3), .val (.ref b1), .val (.int cj27), .unset] [(.int (own_in cj27 (9 : Int32) (9 : Int32)))]))
    refine o_if_ne H30 at_112 (pt := 175) (by decide) (by decide) rfl ?_ ?_
    · intro c112_31
      refine o_iconst H30 (1 : Int32) rfl at_175 rfl ?_
      refine o_goto H30 at_176 (pt := 180) (by decide) (by decide) ?_
      exact j28 T30 (1 : Int32) H30 (by simp [own_exp, c112_31])
    · intro c112_31
      refine o_iload H30 rfl at_115 rfl ?_
      refine o_bipush H30 (10 : Int32) rfl at_117 rfl ?_
      refine o_bipush H30 (10 : Int32) rfl at_119 rfl ?_
      refine o_static H30 [(.int cj27), (.int (10 : Int32)), (.int (10 : Int32))] [] (rm1 l Z a0 hw cj27 (10 : Int32) (10 : Int32) h25 n0 H30.le) (w8 hw) (w9 hw) (w10 hw) (w11 hw) (by decide) (lenOf pd1 rfl) rfl rfl (by decide) (Nat.le_of_ble_eq_true rfl) (by decide) (by decide) at_121 rfl ?_
      intro T32 v32 h32 H32 q32
      obtain ⟨rfl, rfl⟩ := q32
      show oG p e below s n0 _ _ _ (T32.setTop (mkF m 124 #[.val (.int p1), .val (.int p2), .val (.int p3), .val (.ref b1), .val (.int cj27), .unset] [(.int (own_in cj27 (10 : Int32) (10 : Int32)))]))
      refine o_if_ne H32 at_124 (pt := 175) (by decide) (by decide) rfl ?_ ?_
      · intro c124_33
        refine o_iconst H32 (1 : Int32) rfl at_175 rfl ?_
        refine o_goto H32 at_176 (pt := 180) (by decide) (by decide) ?_
        exact j28 T32 (1 : Int32) H32 (by simp [own_exp, c112_31, c124_33])
      · intro c124_33
        refine o_iload H32 rfl at_127 rfl ?_
        refine o_bipush H32 (13 : Int32) rfl at_129 rfl ?_
        refine o_bipush H32 (13 : Int32) rfl at_131 rfl ?_
        refine o_static H32 [(.int cj27), (.int (13 : Int32)), (.int (13 : Int32))] [] (rm1 l Z a0 hw cj27 (13 : Int32) (13 : Int32) h25 n0 H32.le) (w8 hw) (w9 hw) (w10 hw) (w11 hw) (by decide) (lenOf pd1 rfl) rfl rfl (by decide) (Nat.le_of_ble_eq_true rfl) (by decide) (by decide) at_133 rfl ?_
        intro T34 v34 h34 H34 q34
        obtain ⟨rfl, rfl⟩ := q34
        show oG p e below s n0 _ _ _ (T34.setTop (mkF m 136 #[.val (.int p1), .val (.int p2), .val (.int p3), .val (.ref b1), .val (.int cj27), .unset] [(.int (own_in cj27 (13 : Int32) (13 : Int32)))]))
        refine o_if_ne H34 at_136 (pt := 175) (by decide) (by decide) rfl ?_ ?_
        · intro c136_35
          refine o_iconst H34 (1 : Int32) rfl at_175 rfl ?_
          refine o_goto H34 at_176 (pt := 180) (by decide) (by decide) ?_
          exact j28 T34 (1 : Int32) H34 (by simp [own_exp, c112_31, c124_33, c136_35])
        · intro c136_35
          refine o_iload H34 rfl at_139 rfl ?_
          refine o_bipush H34 (32 : Int32) rfl at_141 rfl ?_
          refine o_ldcI H34 (55295 : Int32) (w1 hw) at_143 rfl ?_
          refine o_static H34 [(.int cj27), (.int (32 : Int32)), (.int (55295 : Int32))] [] (rm1 l Z a0 hw cj27 (32 : Int32) (55295 : Int32) h25 n0 H34.le) (w8 hw) (w9 hw) (w10 hw) (w11 hw) (by decide) (lenOf pd1 rfl) rfl rfl (by decide) (Nat.le_of_ble_eq_true rfl) (by decide) (by decide) at_145 rfl ?_
          intro T36 v36 h36 H36 q36
          obtain ⟨rfl, rfl⟩ := q36
          show oG p e below s n0 _ _ _ (T36.setTop (mkF m 148 #[.val (.int p1), .val (.int p2), .val (.int p3), .val (.ref b1), .val (.int cj27), .unset] [(.int (own_in cj27 (32 : Int32) (55295 : Int32)))]))
          refine o_if_ne H36 at_148 (pt := 175) (by decide) (by decide) rfl ?_ ?_
          · intro c148_37
            refine o_iconst H36 (1 : Int32) rfl at_175 rfl ?_
            refine o_goto H36 at_176 (pt := 180) (by decide) (by decide) ?_
            exact j28 T36 (1 : Int32) H36 (by simp [own_exp, c112_31, c124_33, c136_35, c148_37])
          · intro c148_37
            refine o_iload H36 rfl at_151 rfl ?_
            refine o_ldcI H36 (57344 : Int32) (w2 hw) at_153 rfl ?_
            refine o_ldcI H36 (65533 : Int32) (w3 hw) at_155 rfl ?_
            refine o_static H36 [(.int cj27), (.int (57344 : Int32)), (.int (65533 : Int32))] [] (rm1 l Z a0 hw cj27 (57344 : Int32) (65533 : Int32) h25 n0 H36.le) (w8 hw) (w9 hw) (w10 hw) (w11 hw) (by decide) (lenOf pd1 rfl) rfl rfl (by decide) (Nat.le_of_ble_eq_true rfl) (by decide) (by decide) at_157 rfl ?_
            intro T38 v38 h38 H38 q38
            obtain ⟨rfl, rfl⟩ := q38
            show oG p e below s n0 _ _ _ (T38.setTop (mkF m 160 #[.val (.int p1), .val (.int p2), .val (.int p3), .val (.ref b1), .val (.int cj27), .unset] [(.int (own_in cj27 (57344 : Int32) (65533 : Int32)))]))
            refine o_if_ne H38 at_160 (pt := 175) (by decide) (by decide) rfl ?_ ?_
            · intro c160_39
              refine o_iconst H38 (1 : Int32) rfl at_175 rfl ?_
              refine o_goto H38 at_176 (pt := 180) (by decide) (by decide) ?_
              exact j28 T38 (1 : Int32) H38 (by simp [own_exp, c112_31, c124_33, c136_35, c148_37, c160_39])
            · intro c160_39
              refine o_iload H38 rfl at_163 rfl ?_
              refine o_ldcI H38 (65536 : Int32) (w4 hw) at_165 rfl ?_
              refine o_ldcI H38 (1114111 : Int32) (w5 hw) at_167 rfl ?_
              refine o_static H38 [(.int cj27), (.int (65536 : Int32)), (.int (1114111 : Int32))] [] (rm1 l Z a0 hw cj27 (65536 : Int32) (1114111 : Int32) h25 n0 H38.le) (w8 hw) (w9 hw) (w10 hw) (w11 hw) (by decide) (lenOf pd1 rfl) rfl rfl (by decide) (Nat.le_of_ble_eq_true rfl) (by decide) (by decide) at_169 rfl ?_
              intro T40 v40 h40 H40 q40
              obtain ⟨rfl, rfl⟩ := q40
              show oG p e below s n0 _ _ _ (T40.setTop (mkF m 172 #[.val (.int p1), .val (.int p2), .val (.int p3), .val (.ref b1), .val (.int cj27), .unset] [(.int (own_in cj27 (65536 : Int32) (1114111 : Int32)))]))
              refine o_if_eq H40 at_172 (pt := 179) (by decide) (by decide) rfl ?_ ?_
              · intro c172_41
                refine o_iconst H40 (0 : Int32) rfl at_179 rfl ?_
                exact j28 T40 (0 : Int32) H40 (by simp [own_exp, c112_31, c124_33, c136_35, c148_37, c160_39, c172_41])
              · intro c172_41
                refine o_iconst H40 (1 : Int32) rfl at_175 rfl ?_
                refine o_goto H40 at_176 (pt := 180) (by decide) (by decide) ?_
                exact j28 T40 (1 : Int32) H40 (by simp [own_exp, c112_31, c124_33, c136_35, c148_37, c160_39, c172_41])
  refine o_iloadN H25 rfl at_70 rfl ?_
  refine o_bipush H25 (16 : Int32) rfl at_71 rfl ?_
  refine o_iand H25 at_73 rfl ?_
  refine o_if_eq H25 at_74 (pt := 83) (by decide) (by decide) rfl ?_ ?_
  · intro c74_42
    refine o_aloadN H25 rfl rfl at_83 rfl ?_
    refine o_iloadN H25 rfl at_84 rfl ?_
    refine o_bipush H25 (15 : Int32) rfl at_85 rfl ?_
    refine o_iand H25 at_87 rfl ?_
    refine o_bipush H25 (12 : Int32) rfl at_88 rfl ?_
    refine o_irem H25 (by decide) at_90 rfl ?_
    have hr := own_rng p2
    refine o_iaload H25 (((p2 &&& (15 : Int32)) % (12 : Int32))).toInt.toNat (.int (own_e ((p2 &&& (15 : Int32)) % (12 : Int32)))) f26 (by omega) (own_get [0, 9, 10, 13, 32, 55295, 57344, 65533, 65536, 1114111, 2147483647, (-2147483648)] _ (by show _ < 12; omega)) at_91 rfl ?_
    refine o_iloadN H25 rfl at_92 rfl ?_
    refine o_ldcI H25 (2147483647 : Int32) (w6 hw) at_93 rfl ?_
    refine o_iand H25 at_95 rfl ?_
    refine o_iconst H25 (5 : Int32) rfl at_96 rfl ?_
    refine o_irem H25 (by decide) at_97 rfl ?_
    refine o_iadd H25 at_98 rfl ?_
    refine o_iconst H25 (2 : Int32) rfl at_99 rfl ?_
    refine o_isub H25 at_100 rfl ?_
    refine o_istore H25 (L' := #[.val (.int p1), .val (.int p2), .val (.int p3), .val (.ref b1), .val (.int (((own_e ((p2 &&& (15 : Int32)) % (12 : Int32))) + ((p3 &&& (2147483647 : Int32)) % (5 : Int32))) - (2 : Int32))), .unset]) rfl at_101 rfl ?_
    exact j27 (((own_e ((p2 &&& (15 : Int32)) % (12 : Int32))) + ((p3 &&& (2147483647 : Int32)) % (5 : Int32))) - (2 : Int32)) 
  · intro c74_42
    refine o_iloadN H25 rfl at_77 rfl ?_
    refine o_istore H25 (L' := #[.val (.int p1), .val (.int p2), .val (.int p3), .val (.ref b1), .val (.int p1), .unset]) rfl at_78 rfl ?_
    refine o_goto H25 at_80 (pt := 103) (by decide) (by decide) ?_
    exact j27 p1 
set_option maxRecDepth 65536 in
set_option maxHeartbeats 40000000 in
theorem comes_1 {Post : Tables → Env → Array Value → State → Outcome → State → Prop} (hpost : ∀ tb e args s v u, (limb_1_1.after args s (.returned v) u = true ∧ limb_1_2.after args s (.returned v) u = true ∧ True) → FrameEnd s (.returned v) u (Jvm.fieldLocs frame_1_writes args s ++ Jvm.arrayLocs frame_1_arrays args s ++ Jvm.staticLocs frame_1_statics s) 16 128 → Post tb e args s (.returned v) u) :
    ArmFor flags0 classFile x code maxLocals ret World_1 tables_1 room_1 Calls_1 rest_1 Pre_1 Post := by
  intro l hfl _ _ p e ha hc hk s m args below hf hA hF happ hP
  obtain ⟨hcalls, hrest, hpre⟩ := hP
  obtain ⟨-, -, -, hnamed, -, -, -, hat⟩ := (Spec.applies_iff hf).mp happ
  obtain ⟨hg, hn⟩ := and_e (Cond.before_iff.mp (show (Jvm.Cond.and given_1 narrow_1).before args s = true from hpre))
  obtain ⟨g0, gs0⟩ := and_e hg
  obtain ⟨a0, gs1⟩ := and_e gs0
  obtain ⟨a1, gs2⟩ := and_e gs1
  have a2 := gs2
  obtain ⟨w0, w1, w2, rfl⟩ : ∃ w0 w1 w2 : Value, args = #[w0, w1, w2] := by
    have hs : args.size = 3 := by simpa [Cond.value, given_1] using g0
    obtain ⟨L⟩ := args
    match L, hs with
    | [w0, w1, w2], _ => exact ⟨w0, w1, w2, rfl⟩
  have hw := fun d (hd : d ∈ tables_1) => atoms_spec (ws := Jvm.Cond.code x code maxLocals ret :: tables_1) hat d (List.mem_cons_of_mem _ hd)
  have hfit : Fit s := fun {y c} hc i hi => by
    obtain ⟨ha, rfl⟩ := Array.getElem?_eq_some_iff.mp hc
    have q := List.all_eq_true.mp ((Array.all_eq_true_iff_forall_mem.mp hF) _ (Array.getElem_mem ha)) i (List.mem_range.mpr hi)
    simpa [Array.getElem?_eq_getElem hi] using q
  obtain ⟨i0, e0⟩ := is_v a0
  obtain rfl : w0 = (.int i0) := Option.some.inj e0
  obtain ⟨i1, e1⟩ := is_v a1
  obtain rfl : w1 = (.int i1) := Option.some.inj e1
  obtain ⟨i2, e2⟩ := is_v a2
  obtain rfl : w2 = (.int i2) := Option.some.inj e2
  obtain ⟨n, o, h1, h2, h3, _, L, rfl, ⟨rfl, N⟩, hq⟩ := rm0 l s _ hw i0 i1 i2  s.heap s.heap.size (Nat.le_refl _)  tables_1 p e ha hc hk s m _ below hf ((Spec.applies_iff_loose hf).mp happ).1 ⟨rfl, State.Warmed39.refl s, rfl⟩ trivial
  refine ⟨n, _, h1, h2, h3, hpost _ _ _ _ _ _ ⟨Cond.after_iff.mpr rfl, Cond.after_iff.mpr (eq_i res_at (Term.int_eval (1)) rfl), trivial⟩ ⟨hq.1, hq.2.1, (hq.2.2.sift fun y hy => Or.inr (N y hy)).mono (by decide) (by decide)⟩⟩
theorem main_1_1 : Claimed_1_1 := comes_1 fun _ _ _ _ _ _ h hF => ⟨h.1, hF⟩
theorem main_1_2 : Claimed_1_2 := comes_1 fun _ _ _ _ _ _ h hF => ⟨h.2.1, hF⟩
end Jvm.Pilot.@@N@@
namespace Jvm.Pilot.@@N@@
open Jvm Jvm.ClassFile Sem Op Lib Jvm.Free Jvm.Stand Jvm.Pilot.@@N@@.Jvm.D
/-! MADE BY PROGRAM (witnessworld.py) out of the Statement's table words and the real class files: 9 classes; the members and pool entries that the words name. The judged class is class 1, her method 1. -/
namespace start1
open Jvm.ClassFile
def u (s : String) : CpInfo := .utf8 (stringToUtf16 s)
/-- a pool by its gaps: so many unusable entries, then the entry; so many at the end -/
def gap : Nat → List CpInfo → List CpInfo
  | 0, r => r
  | n + 1, r => .unusable :: gap n r
def poolList (es : List (Nat × CpInfo)) (last : Nat) : List CpInfo := es.foldr (fun e r => gap e.1 (e.2 :: r)) (gap last [])
def pool (es : List (Nat × CpInfo)) (last : Nat) : Array CpInfo := ⟨poolList es last⟩
def fileOf (pool : Array CpInfo) (this : Nat) (attrs : Array Attribute := #[]) (ms : Array MethodInfo := #[]) (fl : Nat := 33) (sup : Nat := 0) (ifs : Array Nat := #[]) (fds : Array FieldInfo := #[]) : ClassFile where
  minorVersion := 0
  majorVersion := 65
  constantPool := pool
  accessFlags := fl
  thisClass := this
  superClass := sup
  interfaces := ifs
  fields := fds
  methods := ms
  attributes := attrs
def plain (name : String) (sup : Option ClassId) : Class where
  name := name
  kind := .ordinary
  loader := none
  accessFlags := 33
  super := sup
  interfaces := #[]
  cf := none
  fields := #[]
  methods := #[]
  instanceTypes := #[]
  staticTypes := #[]
  resolved := #[]
  callSites := []
  init := .initialized
  statics := none
  mirror := none

def pool0 : Array CpInfo := pool [(5, u "<init>"), (0, u "()V"), (1, .class_ 10), (1, u "java/lang/Object")] 113

def k0m0 : Method := { name := "<init>", desc := "()V", sig := { parameters := [], returnType := none }, accessFlags := 1, code := none }
/-- java/lang/Object -/
def k0 : Class := { plain "java/lang/Object" none with
  accessFlags := 33
  interfaces := #[]
  cf := some (fileOf pool0 8 #[] #[{ accessFlags := 1, nameIndex := 5, descriptorIndex := 6, attributes := #[] }] 33 0 #[] #[])
  fields := #[]
  methods := #[k0m0]
  instanceTypes := #[]
  staticTypes := #[]
  resolved := Array.replicate 124 none
  statics := none }

def pool1 : Array CpInfo := pool [(2, .class_ 4), (1, u "java/lang/Object"), (0, u "<init>"), (0, u "()V"), (0, .integer 55295), (0, .integer 57344), (0, .integer 65533), (0, .integer 65536), (0, .integer 1114111), (2, .integer 2147483647), (0, .integer 2147483648), (0, .methodref 17 18), (0, .class_ 19), (0, .nameAndType 20 21), (0, u "com/example/following_sibling/followingsibling/XmlScannerIsXmlCharacterPinLaw"), (0, u "in"), (0, u "(III)Z"), (0, .methodref 23 24), (0, .class_ 25), (0, .nameAndType 26 27), (0, u "com/example/following_sibling/followingsibling/XmlScanner"), (0, u "isXmlCharacter"), (0, u "(I)Z"), (2, u "law")] 5

def k1m0 : Method := { name := "<init>", desc := "()V", sig := { parameters := [], returnType := none }, accessFlags := 1, code := none }
def k1c1 : Code := { maxStack := 4, maxLocals := 6, code := code, exceptionTable := #[], attributes := #[] }
def k1m1 : Method := { name := "law", desc := "(III)Z", sig := { parameters := [.int, .int, .int], returnType := some .boolean }, accessFlags := 9, code := some k1c1 }
def k1c2 : Code := { maxStack := 2, maxLocals := 3, code := method_3_code, exceptionTable := #[], attributes := #[] }
def k1m2 : Method := { name := "in", desc := "(III)Z", sig := { parameters := [.int, .int, .int], returnType := some .boolean }, accessFlags := 10, code := some k1c2 }
/-- com/example/following_sibling/followingsibling/XmlScannerIsXmlCharacterPinLaw -/
def k1 : Class := { plain "com/example/following_sibling/followingsibling/XmlScannerIsXmlCharacterPinLaw" (some 0) with
  accessFlags := 49
  interfaces := #[]
  cf := some (fileOf pool1 17 #[] #[{ accessFlags := 1, nameIndex := 5, descriptorIndex := 6, attributes := #[] }, { accessFlags := 9, nameIndex := 30, descriptorIndex := 21, attributes := #[] }, { accessFlags := 10, nameIndex := 20, descriptorIndex := 21, attributes := #[] }] 49 2 #[] #[])
  fields := #[]
  methods := #[k1m0, k1m1, k1m2]
  instanceTypes := #[]
  staticTypes := #[]
  resolved := Array.replicate 36 none
  statics := none }

def pool2 : Array CpInfo := pool [(2, .class_ 4), (1, u "java/lang/Object"), (3, .class_ 10), (1, u "com/example/following_sibling/followingsibling/XmlScanner"), (0, u "mark"), (0, u "I"), (2, u "characters"), (0, u "[C"), (0, .class_ 18), (0, u "com/example/following_sibling/followingsibling/XmlScanner$Frame"), (2, u "frames"), (0, u "[Lcom/example/following_sibling/followingsibling/XmlScanner$Frame;"), (2, u "line"), (2, u "stream"), (0, u "Ljava/io/InputStream;"), (2, u "documentName"), (0, u "Ljava/lang/String;"), (2, u "rereading"), (0, u "Lcom/example/following_sibling/followingsibling/XmlScanner$Rereading;"), (0, .integer 65536), (2, u "buffer"), (0, u "[B"), (2, u "bytes"), (2, u "bufferLimit"), (2, u "streamEnded"), (0, u "Z"), (5, u "limit"), (2, u "base"), (0, u "J"), (19, u "ascii"), (2, u "standalone"), (2, u "unreadDeclarations"), (2, u "inDeclaration"), (2, u "inDocumentType"), (2, u "openElement"), (0, u "Lcom/example/following_sibling/followingsibling/NameTable$Name;"), (2, u "depth"), (2, u "position"), (17, u "(I)Z"), (25, u "ASCII_NAME_BYTES"), (0, u "[Z"), (0, .integer 55295), (0, .integer 57344), (0, .integer 65533), (0, .integer 1114111), (100, u "isXmlCharacter"), (81, u "expanded"), (7, u "referenceAt"), (2, u "outermostInAttribute"), (28, u "watched"), (2, u "watchedLocation"), (33, u "counted"), (6, u "lineStart"), (2, u "lineCharacters"), (6, .class_ 432), (1, u "com/example/following_sibling/followingsibling/XmlScanner$Rereading"), (22, u "carriageReturnBefore"), (4, u "LONGS"), (0, u "Ljava/lang/invoke/VarHandle;"), (43, u "PLAIN_IN_VALUES"), (2, u "characterCount"), (107, u "END"), (2, u "BUFFER_LENGTH")] 91

def k2c0 : Code := { maxStack := 2, maxLocals := 1, code := prog_163_method_23_code, exceptionTable := #[], attributes := #[] }
def k2m0 : Method := { name := "isXmlCharacter", desc := "(I)Z", sig := { parameters := [.int], returnType := some .boolean }, accessFlags := 8, code := some k2c0 }
/-- com/example/following_sibling/followingsibling/XmlScanner -/
def k2 : Class := { plain "com/example/following_sibling/followingsibling/XmlScanner" (some 0) with
  accessFlags := 48
  interfaces := #[]
  cf := some (fileOf pool2 8 #[.nestMembers #[17, 430]] #[{ accessFlags := 8, nameIndex := 254, descriptorIndex := 122, attributes := #[] }] 48 2 #[] #[{ accessFlags := 24, nameIndex := 616, descriptorIndex := 12, attributes := #[] }, { accessFlags := 26, nameIndex := 619, descriptorIndex := 12, attributes := #[] }, { accessFlags := 26, nameIndex := 148, descriptorIndex := 149, attributes := #[] }, { accessFlags := 26, nameIndex := 505, descriptorIndex := 149, attributes := #[] }, { accessFlags := 26, nameIndex := 460, descriptorIndex := 461, attributes := #[] }, { accessFlags := 0, nameIndex := 45, descriptorIndex := 42, attributes := #[] }, { accessFlags := 0, nameIndex := 104, descriptorIndex := 12, attributes := #[] }, { accessFlags := 0, nameIndex := 58, descriptorIndex := 12, attributes := #[] }, { accessFlags := 0, nameIndex := 11, descriptorIndex := 12, attributes := #[] }, { accessFlags := 0, nameIndex := 15, descriptorIndex := 16, attributes := #[] }, { accessFlags := 0, nameIndex := 508, descriptorIndex := 12, attributes := #[] }, { accessFlags := 18, nameIndex := 28, descriptorIndex := 29, attributes := #[] }, { accessFlags := 18, nameIndex := 32, descriptorIndex := 33, attributes := #[] }, { accessFlags := 18, nameIndex := 36, descriptorIndex := 37, attributes := #[] }, { accessFlags := 2, nameIndex := 41, descriptorIndex := 42, attributes := #[] }, { accessFlags := 2, nameIndex := 48, descriptorIndex := 12, attributes := #[] }, { accessFlags := 2, nameIndex := 61, descriptorIndex := 62, attributes := #[] }, { accessFlags := 2, nameIndex := 51, descriptorIndex := 52, attributes := #[] }, { accessFlags := 2, nameIndex := 82, descriptorIndex := 52, attributes := #[] }, { accessFlags := 2, nameIndex := 21, descriptorIndex := 22, attributes := #[] }, { accessFlags := 2, nameIndex := 101, descriptorIndex := 12, attributes := #[] }, { accessFlags := 2, nameIndex := 336, descriptorIndex := 62, attributes := #[] }, { accessFlags := 2, nameIndex := 344, descriptorIndex := 62, attributes := #[] }, { accessFlags := 2, nameIndex := 347, descriptorIndex := 52, attributes := #[] }, { accessFlags := 2, nameIndex := 413, descriptorIndex := 62, attributes := #[] }, { accessFlags := 2, nameIndex := 25, descriptorIndex := 12, attributes := #[] }, { accessFlags := 2, nameIndex := 420, descriptorIndex := 62, attributes := #[] }, { accessFlags := 2, nameIndex := 423, descriptorIndex := 12, attributes := #[] }, { accessFlags := 2, nameIndex := 455, descriptorIndex := 52, attributes := #[] }, { accessFlags := 2, nameIndex := 376, descriptorIndex := 62, attributes := #[] }, { accessFlags := 2, nameIndex := 379, descriptorIndex := 33, attributes := #[] }, { accessFlags := 2, nameIndex := 91, descriptorIndex := 52, attributes := #[] }, { accessFlags := 2, nameIndex := 94, descriptorIndex := 52, attributes := #[] }, { accessFlags := 2, nameIndex := 97, descriptorIndex := 98, attributes := #[] }, { accessFlags := 2, nameIndex := 85, descriptorIndex := 52, attributes := #[] }, { accessFlags := 2, nameIndex := 88, descriptorIndex := 52, attributes := #[] }])
  fields := #[{ name := "END", type := .int, accessFlags := 24, slot := 0, constantValue := 0 }, { name := "BUFFER_LENGTH", type := .int, accessFlags := 26, slot := 1, constantValue := 0 }, { name := "ASCII_NAME_BYTES", type := (.array .boolean), accessFlags := 26, slot := 2, constantValue := 0 }, { name := "PLAIN_IN_VALUES", type := (.array .boolean), accessFlags := 26, slot := 3, constantValue := 0 }, { name := "LONGS", type := (.object "java/lang/invoke/VarHandle"), accessFlags := 26, slot := 4, constantValue := 0 }, { name := "bytes", type := (.array .byte), accessFlags := 0, slot := 0, constantValue := 0 }, { name := "position", type := .int, accessFlags := 0, slot := 1, constantValue := 0 }, { name := "limit", type := .int, accessFlags := 0, slot := 2, constantValue := 0 }, { name := "mark", type := .int, accessFlags := 0, slot := 3, constantValue := 0 }, { name := "characters", type := (.array .char), accessFlags := 0, slot := 4, constantValue := 0 }, { name := "characterCount", type := .int, accessFlags := 0, slot := 5, constantValue := 0 }, { name := "stream", type := (.object "java/io/InputStream"), accessFlags := 18, slot := 6, constantValue := 0 }, { name := "documentName", type := (.object "java/lang/String"), accessFlags := 18, slot := 7, constantValue := 0 }, { name := "rereading", type := (.object "com/example/following_sibling/followingsibling/XmlScanner$Rereading"), accessFlags := 18, slot := 8, constantValue := 0 }, { name := "buffer", type := (.array .byte), accessFlags := 2, slot := 9, constantValue := 0 }, { name := "bufferLimit", type := .int, accessFlags := 2, slot := 10, constantValue := 0 }, { name := "base", type := .long, accessFlags := 2, slot := 11, constantValue := 0 }, { name := "streamEnded", type := .boolean, accessFlags := 2, slot := 12, constantValue := 0 }, { name := "ascii", type := .boolean, accessFlags := 2, slot := 13, constantValue := 0 }, { name := "frames", type := (.array (.object "com/example/following_sibling/followingsibling/XmlScanner$Frame")), accessFlags := 2, slot := 14, constantValue := 0 }, { name := "depth", type := .int, accessFlags := 2, slot := 15, constantValue := 0 }, { name := "expanded", type := .long, accessFlags := 2, slot := 16, constantValue := 0 }, { name := "referenceAt", type := .long, accessFlags := 2, slot := 17, constantValue := 0 }, { name := "outermostInAttribute", type := .boolean, accessFlags := 2, slot := 18, constantValue := 0 }, { name := "counted", type := .long, accessFlags := 2, slot := 19, constantValue := 0 }, { name := "line", type := .int, accessFlags := 2, slot := 20, constantValue := 0 }, { name := "lineStart", type := .long, accessFlags := 2, slot := 21, constantValue := 0 }, { name := "lineCharacters", type := .int, accessFlags := 2, slot := 22, constantValue := 0 }, { name := "carriageReturnBefore", type := .boolean, accessFlags := 2, slot := 23, constantValue := 0 }, { name := "watched", type := .long, accessFlags := 2, slot := 24, constantValue := 0 }, { name := "watchedLocation", type := (.object "java/lang/String"), accessFlags := 2, slot := 25, constantValue := 0 }, { name := "inDeclaration", type := .boolean, accessFlags := 2, slot := 26, constantValue := 0 }, { name := "inDocumentType", type := .boolean, accessFlags := 2, slot := 27, constantValue := 0 }, { name := "openElement", type := (.object "com/example/following_sibling/followingsibling/NameTable$Name"), accessFlags := 2, slot := 28, constantValue := 0 }, { name := "standalone", type := .boolean, accessFlags := 2, slot := 29, constantValue := 0 }, { name := "unreadDeclarations", type := .boolean, accessFlags := 2, slot := 30, constantValue := 0 }]
  methods := #[k2m0]
  instanceTypes := #[(.array .byte), .int, .int, .int, (.array .char), .int, (.object "java/io/InputStream"), (.object "java/lang/String"), (.object "com/example/following_sibling/followingsibling/XmlScanner$Rereading"), (.array .byte), .int, .long, .boolean, .boolean, (.array (.object "com/example/following_sibling/followingsibling/XmlScanner$Frame")), .int, .long, .long, .boolean, .long, .int, .long, .int, .boolean, .long, (.object "java/lang/String"), .boolean, .boolean, (.object "com/example/following_sibling/followingsibling/NameTable$Name"), .boolean, .boolean]
  staticTypes := #[.int, .int, (.array .boolean), (.array .boolean), (.object "java/lang/invoke/VarHandle")]
  resolved := Array.replicate 711 none
  statics := none }

def pool3 : Array CpInfo := pool [(1, u "java/lang/Cloneable"), (0, .class_ 1), (0, u "java/lang/Object"), (0, .class_ 3)] 3

/-- java/lang/Cloneable -/
def k3 : Class := { plain "java/lang/Cloneable" (some 0) with
  accessFlags := 1537
  interfaces := #[]
  cf := some (fileOf pool3 2 #[] #[] 1537 4 #[] #[])
  fields := #[]
  methods := #[]
  instanceTypes := #[]
  staticTypes := #[]
  resolved := Array.replicate 8 none
  statics := none }

def pool4 : Array CpInfo := pool [(1, u "java/io/Serializable"), (0, .class_ 1), (0, u "java/lang/Object"), (0, .class_ 3)] 3

/-- java/io/Serializable -/
def k4 : Class := { plain "java/io/Serializable" (some 0) with
  accessFlags := 1537
  interfaces := #[]
  cf := some (fileOf pool4 2 #[] #[] 1537 4 #[] #[])
  fields := #[]
  methods := #[]
  instanceTypes := #[]
  staticTypes := #[]
  resolved := Array.replicate 8 none
  statics := none }

/-- the primitive byte -/
def k5 : Class := { plain "byte" none with kind := .primitive 'B', accessFlags := 0x411 }
/-- [B -/
def k6 : Class := { plain "[B" (some 0) with kind := .array 5 .byte, interfaces := #[3, 4], accessFlags := 1041 }

/-- the primitive int -/
def k7 : Class := { plain "int" none with kind := .primitive 'I', accessFlags := 0x411 }
/-- [I -/
def k8 : Class := { plain "[I" (some 0) with kind := .array 7 .int, interfaces := #[3, 4], accessFlags := 1041 }

def heap : Heap := #[]
def classes : Array Class := #[k0, k1, k2, k3, k4, k5, k6, k7, k8]
def interned : List (Array UInt16 × Addr) := []
def slotsUsed : Nat := 0
def theMethod : MethodId := ⟨1, 1⟩
def args0 : Array Value := #[.int 5, .int 7, .int 9]
def aboutOver (below : List Frame) : State where
  vm := { classes := classes, interned := interned.toArray }
  heap := heap
  slotsUsed := slotsUsed
  threads := #[{ frames := .invoking theMethod args0 :: below }]
def below0 : List Frame := [.native { method := ⟨0, 0⟩, args := #[] }]
def about1 : State := aboutOver below0
def p0 : Program := .bare "" "" ""
def e0 : Env := launch0.env 0 0 0
theorem w_frames : about1.frames = Frame.invoking theMethod args0 :: below0 := rfl
set_option maxRecDepth 65536 in
theorem w_args : argsFit about1.vm theMethod args0 = true := by decide +kernel
set_option maxRecDepth 65536 in
theorem w_heap : heapFits about1 = true := by decide +kernel
set_option maxRecDepth 65536 in
theorem w_runnable : about1.curStatus? = some .runnable := by decide +kernel
set_option maxRecDepth 65536 in
theorem w_alone : about1.alone = true := by decide +kernel
set_option maxRecDepth 65536 in
theorem w_named : about1.methodNamed? x = some theMethod := by decide +kernel
set_option maxRecDepth 65536 in
theorem w_hears : about1.hears theMethod below0 = true := by decide +kernel
set_option maxRecDepth 65536 in
theorem w_ripe : about1.ripe theMethod args0 below0 = true := by decide +kernel
theorem w_running : about1.status = .running := rfl
set_option maxRecDepth 65536 in
theorem w_room : about1.hasRoom e0.platform room_1 = true :=
  launch0.hasRoom_least _ room_1 (by decide +kernel) (by decide +kernel) (by decide +kernel) (by decide +kernel) (by decide +kernel) (by decide +kernel)
theorem allAtoms_all (ts : List Jvm.Cond) (a : Array Jvm.Value) (st : Jvm.State) : (allAtoms ts).before a st = ts.all (fun c => c.before a st) := by
  induction ts with
  | nil => rfl
  | cons c t ih =>
    show (Jvm.Cond.and c (allAtoms t)).before a st = _
    rw [Jvm.Cond.before_and, ih, List.all_cons]
def words1 : List Jvm.Cond := Jvm.Cond.code x code maxLocals ret :: tables_1
/-- a 'code' word, met by the world's own term for the bytes: nothing is compared byte by byte -/
theorem code_word {y : MethodName} {bytes : ByteArray} {mx : Nat} {rt : Option FieldType} {a : Array Value} {s : State} {m : MethodId} {meth : Method} {c : Code} (h1 : s.methodNamed? y = some m) (h2 : s.vm.method? m = some meth) (h3 : meth.code = some c) (h4 : c.code = bytes)
    (h5 : (c.maxLocals == mx && c.exceptionTable.isEmpty && decide (c.maxStack ≤ mostOperands) && decide (meth.sig.returnType = rt) && !meth.locks && decide (parseMethodDescriptor y.desc = some meth.sig)) = true) : (Jvm.Cond.code y bytes mx rt).before a s = true := by
  simp only [Bool.and_eq_true, beq_iff_eq, Bool.not_eq_true', decide_eq_true_eq] at h5
  obtain ⟨⟨⟨⟨⟨g1, g2⟩, g3⟩, g4⟩, g5⟩, g6⟩ := h5
  simp [Cond.before, Cond.holds, Cond.value, h1, h2, h3, h4, g1, g2, g3, g4, g5, g6]
def isCode : Jvm.Cond → Bool
  | .code _ _ _ _ => true
  | _ => false
theorem all_split {L : List Jvm.Cond} {P : Jvm.Cond → Bool} (h1 : L.all (fun c => isCode c || P c) = true) (h2 : ∀ c ∈ L.filter isCode, P c = true) : L.all P = true := by
  refine List.all_eq_true.mpr fun c hc => ?_
  have h := List.all_eq_true.mp h1 c hc
  rcases Bool.eq_false_or_eq_true (isCode c) with hi | hi
  · exact h2 c (List.mem_filter.mpr ⟨hc, hi⟩)
  · simpa [hi] using h
set_option maxRecDepth 65536 in
theorem w_c0 : (Jvm.Cond.code x code maxLocals ret).before args0 about1 = true := code_word (m := ⟨1, 1⟩) (meth := k1m1) (c := k1c1) (by decide +kernel) rfl rfl rfl (by decide +kernel)
set_option maxRecDepth 65536 in
theorem w_c1 : (Jvm.Cond.code ({ cls := "com/example/following_sibling/followingsibling/XmlScannerIsXmlCharacterPinLaw", name := "in", desc := "(III)Z" } : Jvm.MethodName) method_3_code (3 : Nat) (Option.some Jvm.ClassFile.FieldType.boolean)).before args0 about1 = true := code_word (m := ⟨1, 2⟩) (meth := k1m2) (c := k1c2) (by decide +kernel) rfl rfl rfl (by decide +kernel)
set_option maxRecDepth 65536 in
theorem w_c2 : (Jvm.Cond.code ({ cls := "com/example/following_sibling/followingsibling/XmlScanner", name := "isXmlCharacter", desc := "(I)Z" } : Jvm.MethodName) prog_163_method_23_code (1 : Nat) (Option.some Jvm.ClassFile.FieldType.boolean)).before args0 about1 = true := code_word (m := ⟨2, 0⟩) (meth := k2m0) (c := k2c0) (by decide +kernel) rfl rfl rfl (by decide +kernel)
def codes1 : List Jvm.Cond := [Jvm.Cond.code x code maxLocals ret, Jvm.Cond.code ({ cls := "com/example/following_sibling/followingsibling/XmlScannerIsXmlCharacterPinLaw", name := "in", desc := "(III)Z" } : Jvm.MethodName) method_3_code (3 : Nat) (Option.some Jvm.ClassFile.FieldType.boolean), Jvm.Cond.code ({ cls := "com/example/following_sibling/followingsibling/XmlScanner", name := "isXmlCharacter", desc := "(I)Z" } : Jvm.MethodName) prog_163_method_23_code (1 : Nat) (Option.some Jvm.ClassFile.FieldType.boolean)]
set_option maxRecDepth 65536 in
theorem codes_eq : words1.filter isCode = codes1 := rfl
theorem w_codes : ∀ c ∈ words1.filter isCode, c.before args0 about1 = true := by
  rw [codes_eq]
  intro c hc
  simp only [codes1, List.mem_cons, List.not_mem_nil, or_false] at hc
  rcases hc with rfl | rfl | rfl
  · exact w_c0
  · exact w_c1
  · exact w_c2
set_option maxRecDepth 65536 in
theorem w_t1 : words1.all (fun c => isCode c || c.before args0 about1) = true := by decide +kernel
theorem w_tables : (allAtoms (Jvm.Cond.code x code maxLocals ret :: tables_1)).before args0 about1 = true := by
  rw [allAtoms_all]
  show words1.all (fun c => c.before args0 about1) = true
  refine all_split ?_ w_codes
  rw [w_t1]
set_option maxRecDepth 65536 in
theorem w_case : (Jvm.Cond.and given_1 narrow_1).before args0 about1 = true := by decide +kernel
theorem w_applies : (headSpec (Jvm.Cond.code x code maxLocals ret :: tables_1) room_1).applies x e0.platform about1 = true :=
  (Spec.applies_iff w_frames).mpr ⟨w_running, w_runnable, w_alone, w_named, w_hears, w_ripe, w_room, w_tables⟩
theorem atStart : AtStart classFile x code maxLocals ret World_1 tables_1 room_1 Calls_1 rest_1 Pre_1 launch0 p0 e0 about1 theMethod args0 below0 :=
  ⟨lists_1, trivial, launch0.admits_env _ _ _, launch0.least_env, fairChoices_fair.cas, fairChoices_fair.clock, w_frames, w_args, w_heap, w_applies, trivial, trivial, w_case⟩
end start1
theorem witness_1 : WitnessClaimed_1 := ⟨start1.p0, start1.e0, start1.about1, start1.theMethod, start1.args0, start1.below0, start1.atStart⟩
end Jvm.Pilot.@@N@@
