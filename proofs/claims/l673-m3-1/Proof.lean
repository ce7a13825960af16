import JvmDerived
import JvmDerived.Pilot.@@N@@Statement
import JvmDerived.Pilot.@@N@@Code
set_option linter.unusedVariables false
set_option linter.unusedSimpArgs false
namespace Jvm.RoadKit
open Sem ClassFile Op Lib Jvm.Stand Jvm.Free Jvm.LawKit
section New
variable {p : Program} {l : Launch} {e : Env} {R : Room} {s : State} {m : MethodId} {args : Array Value} {below : List Frame} {meth : Method} {c : Code} {T : State} {locs : List Loc} {cells slots : Nat}
theorem retI (X : Stand p l e R s m args below meth c T locs cells slots) (hx : p.tables.exec = Jvm.exec) {pc : Nat} {Ls : Array Slot} {z : Int32} {rest : List Value} (hret : meth.sig.returnType = some .int) (hd : decode c.code pc = .ok (.ireturn, 1)) {fs : List Frame}
    (hl : ∀ (f : JFrame) (acts : List Action), f.method = m → f.locked = none → f.entered = [] → (doReturn e (T.setTop f) acts (some (.int z))).1 = T.setFrames fs) : Steps p.tables e below (T.setTop (mkF m pc Ls (.int z :: rest))) (T.setFrames fs) := by
  have hm' : T.vm.method? m = some meth := X.method'
  have hn : narrow .int (.int z) = .int z := rfl
  show Steps p.tables e below (T.setTop { method := m, pc := pc, locals := Ls, stack := _ :: rest, locked := none }) _
  jvm_step X.here [X.here.top, hx, hd, hm', hret, hn]
  first | (intro acts; rw [hl _ acts rfl rfl rfl]) | rw [hl _ _ rfl rfl rfl]
  exact Steps.refl _
end New
end Jvm.RoadKit
namespace Jvm.Pilot.@@N@@
open Jvm Jvm.ClassFile Sem Op Lib Jvm.Free Jvm.Stand Jvm.LawKit Jvm.RoadKit Bundle Jvm.Pilot.@@N@@.Jvm.D
section Own
variable {p : Program} {l : Launch} {e : Env} {R : Room} {s : State} {m : MethodId} {args : Array Value} {below : List Frame} {meth : Method} {c : Code} {T : State} {Z : State} {h : Heap} {n0 kc ks cells slots ml pc pc' pt : Nat} {Q : Option Value → Heap → Prop} {bc : ByteArray} {y : MethodName} {rt : Option FieldType} {L L' : Array Slot} {S : List Value} {a0 : Array Value} {b : Bool} {I : Vm → Prop} {J : Heap → Vm → Prop}
def oSt (I : Vm → Prop) : Prop := ∀ (s : State) (vm : Vm), s.WarmedH vm → I s.vm → I vm
theorem oSt.tt : oSt (fun _ => True) := fun _ _ _ _ => trivial
theorem oSt.ib {Z : State} : oSt (fun vm => IB Z vm []) := fun s vm hW ⟨more, q1, q2⟩ => ⟨more, by rw [← q1]; exact hW.interned_eq, q2⟩
theorem oSt.lit {Z : State} {own : String} {i : Nat} {a : Addr} : oSt (fun vm => Lit (Z.setVm vm) own i a) := fun s vm hW q => State.resolvedAt?_warmed39 (s := Z.setVm s.vm) (vm' := vm) (by exact hW.wide) q
def oG (p : Program) (e : Env) (below : List Frame) (s : State) (n0 kc ks : Nat) (J : Heap → Vm → Prop) (Q : Option Value → Heap → Prop) (U : State) : Prop :=
  ∃ s₂ o, Steps p.tables e below U s₂ ∧ s₂.status = .running ∧ Ended s₂ below o ∧ ∃ v L, o = .returned v ∧ (Q v s₂.heap ∧ Fr n0 L ∧ J s₂.heap s₂.vm) ∧ ReturnedEndW s o s₂ L kc ks
/-- b: nothing that stood when the method was entered has been written; I: what is known of the tables -/
def oH (p : Program) (l : Launch) (e : Env) (R : Room) (s : State) (m : MethodId) (args : Array Value) (below : List Frame) (meth : Method) (c : Code) (bc : ByteArray) (ml : Nat) (y : MethodName) (rt : Option FieldType) (Z : State) (n0 : Nat) (T : State) (h : Heap) (cells slots : Nat) (b : Bool) (I : Vm → Prop) : Prop :=
  ∃ vm0 k0 locs, Stand p l e R (s.setVm vm0) m args below meth c T locs cells slots ∧ T.heap = h ∧ Fr n0 locs ∧ p.tables.exec = Jvm.exec ∧ c.code = bc ∧ c.maxLocals = ml ∧ Z.Warmed39 vm0 ∧ vm0.findClass y.cls = some m.cls ∧ meth.name = y.name ∧ meth.sig.returnType = rt ∧ meth.locks = false ∧ n0 ≤ s.heap.size ∧ s.Since vm0 k0 ∧ k0 ≤ h.size ∧ (b = true → Ext Z.heap s.heap ∧ Fr s.heap.size locs) ∧ I vm0
theorem oG.go {U U' : State} (f : ∀ t, Steps p.tables e below U' t → Steps p.tables e below U t) (k : oG p e below s n0 kc ks J Q U') : oG p e below s n0 kc ks J Q U := by
  obtain ⟨s2, o, h1, r⟩ := k
  exact ⟨s2, o, f _ h1, r⟩
theorem oH.le (H : oH p l e R s m args below meth c bc ml y rt Z n0 T h cells slots b I) : n0 ≤ h.size := by
  obtain ⟨vm0, k0, locs, X, eT, N, -, -, -, -, -, -, -, -, hn, -⟩ := H
  have q : s.heap.size ≤ T.heap.size := X.same.2.1
  rw [← eT]; exact Nat.le_trans hn q
theorem oH.weak (H : oH p l e R s m args below meth c bc ml y rt Z n0 T h cells slots b I) {J : Vm → Prop} (f : ∀ vm, I vm → J vm) : oH p l e R s m args below meth c bc ml y rt Z n0 T h cells slots false J := by
  obtain ⟨vm0, k0, locs, X, eT, N, hx, hby, hml, hZ, hown, hnm, hret, hlk, hn, hS, hk, hB, hI⟩ := H
  exact ⟨vm0, k0, locs, X, eT, N, hx, hby, hml, hZ, hown, hnm, hret, hlk, hn, hS, hk, fun q => (nomatch q), f _ hI⟩
/-- a method's contract: called with these arguments at the heap h0 it comes back with Q, within the room -/
def oC (l : Launch) (Z : State) (n0 : Nat) (I : Vm → Prop) (J : Heap → Vm → Prop) (y : MethodName) (bc : ByteArray) (ml : Nat) (rt : Option FieldType) (rm : Room) (kc ks : Nat) (as' : Array Value) (h0 : Heap) (Q : Option Value → Heap → Prop) : Prop :=
  ∀ ws : List Jvm.Cond, MetFree l y (head1 (Jvm.Cond.code y bc ml rt :: ws) rm) (fun a U => a = as' ∧ Z.Warmed39 U.vm ∧ U.heap = h0 ∧ I U.vm) (fun _ _ _ _ _ => True) (fun _ U o U' => ∃ v L, o = .returned v ∧ (Q v U'.heap ∧ Fr n0 L ∧ J U'.heap U'.vm) ∧ ReturnedEndW U o U' L kc ks)
theorem oC.of {rm : Room} {as' : Array Value} {h0 : Heap} (hpl : plainFor y = true) (hn : n0 ≤ h0.size) (hbE : b = true → Ext Z.heap h0) (hef : ∀ m, entryFrame m as' ml = mkF m 0 L [])
    (body : ∀ (p : Program) (e : Env) (s : State) (m : MethodId) (below : List Frame) (meth : Method) (c : Code) (T : State), oH p l e rm s m as' below meth c bc ml y rt Z n0 T h0 0 0 b I → oG p e below s n0 kc ks J Q (T.setTop (mkF m 0 L []))) : oC l Z n0 I J y bc ml rt rm kc ks as' h0 Q := by
  intro ws
  refine MetFree.of_bodySF hpl hisR ?_
  intro p e s m args below meth c s₁ Bd hml0 hP hK
  obtain ⟨rfl, hZ, hh, hI⟩ := hP
  have X0 : Stand p l e rm s m args below meth c s₁ [] 0 0 := Stand.of_body Bd
  have e0 : s₁.heap = h0 := by rw [← hh, Bd.state]; rfl
  have k := body p e s m below meth c s₁ ⟨s.vm, 0, [], X0, e0, Fr.nil n0, Bd.exec, Bd.bytes, hml0, hZ, findClass_of_methodNamed Bd.named, (name_of_methodNamed Bd.named Bd.method).1, Bd.returns, Bd.notSynchronized, by rw [hh]; exact hn, (State.WarmedH.refl s).since 0, Nat.zero_le _, fun q => ⟨by rw [hh]; exact hbE q, Fr.nil _⟩, hI⟩
  rw [hef m]; exact k
theorem oC.mono {rm : Room} {as' : Array Value} {h0 : Heap} {Q' : Option Value → Heap → Prop} (k : oC l Z n0 I J y bc ml rt rm kc ks as' h0 Q') (f : ∀ v h, Q' v h → Q v h) : oC l Z n0 I J y bc ml rt rm kc ks as' h0 Q := by
  intro ws p e h1 h2 h3 s m args below h4 h5 h6 h7
  obtain ⟨n, o, a1, a2, a3, v, L, a4, ⟨a5, a6⟩, a7⟩ := k ws p e h1 h2 h3 s m args below h4 h5 h6 h7
  exact ⟨n, o, a1, a2, a3, v, L, a4, ⟨f _ _ a5, a6⟩, a7⟩
theorem o_back {yc : MethodName} {bytes : ByteArray} {maxL : Nat} {ret : Option FieldType} {rm : Room} {len W : Nat} {as' : Array Value} {Q' : Option Value → Heap → Prop}
    (con : oC l Z n0 I J yc bytes maxL ret rm rm.cells rm.slots as' h Q') (hZ : Z.Warmed39 s.vm) (hI : I s.vm) (hst : oSt I) (wc : (Jvm.Cond.code yc bytes maxL ret).before a0 Z = true) (wz : (Jvm.Cond.initialized yc.cls).before a0 Z = true) (hf : rm.frames + 1 ≤ R.frames) (hl : W + (maxL + 11) + rm.locals ≤ R.locals) :
    BackS l R p e below s args yc len W (fun A a => a = as' ∧ A.U.heap = h ∧ A.cells + rm.cells ≤ R.cells ∧ A.slots + rm.slots ≤ R.slots)
      (fun A _ v B => ∃ L, (Q' v B.U.heap ∧ Fr n0 L ∧ J B.U.heap B.U.vm) ∧ B.locs = A.locs ++ L ∧ B.cells = A.cells + rm.cells ∧ B.slots = A.slots + rm.slots) :=
  BackS.of_freeW (bytes := bytes) (maxL := maxL) (ret := ret) (E := fun _ _ o t L k n => k = rm.cells ∧ n = rm.slots ∧ ∃ v, o = .returned v ∧ (Q' v t.heap ∧ Fr n0 L ∧ J t.heap t.vm)) (con []) hf hl
    (fun m meth c A a Y hp => have hU : Z.Warmed39 A.U.vm := wtrans hZ Y.warmed
      ⟨by show (Jvm.Cond.and _ .tt).before a A.U = true; rw [Cond.before_and, mv hU wc]; rfl, mv hU wc, mv hU wz, hp.2.2.1, hp.2.2.2⟩)
    (fun m meth c A a g mk Y hp => ⟨hp.1, wtrans hZ Y.warmed, hp.2.1, hst s _ Y.warmed hI⟩) (fun _ _ _ _ _ _ _ _ _ => trivial)
    (fun _ _ _ _ ⟨v, L, h1, h2, h3⟩ => ⟨L, _, _, h3, rfl, rfl, v, h1, h2⟩)
    (fun m meth c A a g mk v t L k n Y hp _ _ ⟨e1, e2, v', e3, e4⟩ => by cases e3; subst e1 e2; exact ⟨L, e4, rfl, rfl, rfl⟩)
theorem o_aloadN (H : oH p l e R s m args below meth c bc ml y rt Z n0 T h cells slots b I) {k : Fin 4} {v : Value} (hl : L[k.val]? = some (.val v)) (hv : v.isRef = true) (hd : decode bc pc = .ok (.aload_n k, 1)) (hp : pc + 1 = pc') (k : oG p e below s n0 kc ks J Q (T.setTop (mkF m pc' L (v :: S)))) : oG p e below s n0 kc ks J Q (T.setTop (mkF m pc L S)) := by
  obtain ⟨vm0, k0, locs, X, eT, N, hx, hby, hml, hZ, hown, hnm, hret, hlk, hn, hS, hk, hB, hI⟩ := H
  subst hp
  exact oG.go (fun t hr => XS.aloadN X.here hx rfl (hb hby hd) hl hv hr) k
theorem o_iloadN (H : oH p l e R s m args below meth c bc ml y rt Z n0 T h cells slots b I) {k : Fin 4} {v : Int32} (hl : L[k.val]? = some (.val (.int v))) (hd : decode bc pc = .ok (.iload_n k, 1)) (hp : pc + 1 = pc') (k : oG p e below s n0 kc ks J Q (T.setTop (mkF m pc' L (.int v :: S)))) : oG p e below s n0 kc ks J Q (T.setTop (mkF m pc L S)) := by
  obtain ⟨vm0, k0, locs, X, eT, N, hx, hby, hml, hZ, hown, hnm, hret, hlk, hn, hS, hk, hB, hI⟩ := H
  subst hp
  exact oG.go (fun t hr => XS.iloadN X.here hx rfl (hb hby hd) hl hr) k
theorem o_lloadN (H : oH p l e R s m args below meth c bc ml y rt Z n0 T h cells slots b I) {k : Fin 4} {v : Int64} (hl : L[k.val]? = some (.val (.long v))) (hd : decode bc pc = .ok (.lload_n k, 1)) (hp : pc + 1 = pc') (k : oG p e below s n0 kc ks J Q (T.setTop (mkF m pc' L (.long v :: S)))) : oG p e below s n0 kc ks J Q (T.setTop (mkF m pc L S)) := by
  obtain ⟨vm0, k0, locs, X, eT, N, hx, hby, hml, hZ, hown, hnm, hret, hlk, hn, hS, hk, hB, hI⟩ := H
  subst hp
  exact oG.go (fun t hr => XT.lloadN X.here hx rfl (hb hby hd) hl hr) k
theorem o_astoreN (H : oH p l e R s m args below meth c bc ml y rt Z n0 T h cells slots b I) {k : Fin 4} {v : Value} (hl : storeLocals L k.val v = some L') (hv : v.isRef = true) (hd : decode bc pc = .ok (.astore_n k, 1)) (hp : pc + 1 = pc') (k : oG p e below s n0 kc ks J Q (T.setTop (mkF m pc' L' S))) : oG p e below s n0 kc ks J Q (T.setTop (mkF m pc L (v :: S))) := by
  obtain ⟨vm0, k0, locs, X, eT, N, hx, hby, hml, hZ, hown, hnm, hret, hlk, hn, hS, hk, hB, hI⟩ := H
  subst hp
  exact oG.go (fun t hr => XS.astoreN X.here hx rfl (hb hby hd) rfl hv hl hr) k
theorem o_istoreN (H : oH p l e R s m args below meth c bc ml y rt Z n0 T h cells slots b I) {k : Fin 4} {v : Int32} (hl : storeLocals L k.val (.int v) = some L') (hd : decode bc pc = .ok (.istore_n k, 1)) (hp : pc + 1 = pc') (k : oG p e below s n0 kc ks J Q (T.setTop (mkF m pc' L' S))) : oG p e below s n0 kc ks J Q (T.setTop (mkF m pc L (.int v :: S))) := by
  obtain ⟨vm0, k0, locs, X, eT, N, hx, hby, hml, hZ, hown, hnm, hret, hlk, hn, hS, hk, hB, hI⟩ := H
  subst hp
  exact oG.go (fun t hr => XS.istoreN X.here hx rfl (hb hby hd) rfl hl hr) k
theorem o_lstoreN (H : oH p l e R s m args below meth c bc ml y rt Z n0 T h cells slots b I) {k : Fin 4} {v : Int64} (hl : storeLocals L k.val (.long v) = some L') (hd : decode bc pc = .ok (.lstore_n k, 1)) (hp : pc + 1 = pc') (k : oG p e below s n0 kc ks J Q (T.setTop (mkF m pc' L' S))) : oG p e below s n0 kc ks J Q (T.setTop (mkF m pc L (.long v :: S))) := by
  obtain ⟨vm0, k0, locs, X, eT, N, hx, hby, hml, hZ, hown, hnm, hret, hlk, hn, hS, hk, hB, hI⟩ := H
  subst hp
  exact oG.go (fun t hr => XT.lstoreN X.here hx rfl (hb hby hd) rfl hl hr) k
theorem o_aload (H : oH p l e R s m args below meth c bc ml y rt Z n0 T h cells slots b I) {k : Nat} {v : Value} (hl : L[k]? = some (.val v)) (hv : v.isRef = true) (hd : decode bc pc = .ok (.aload k, 2)) (hp : pc + 2 = pc') (k : oG p e below s n0 kc ks J Q (T.setTop (mkF m pc' L (v :: S)))) : oG p e below s n0 kc ks J Q (T.setTop (mkF m pc L S)) := by
  obtain ⟨vm0, k0, locs, X, eT, N, hx, hby, hml, hZ, hown, hnm, hret, hlk, hn, hS, hk, hB, hI⟩ := H
  subst hp
  exact oG.go (fun t hr => XS.aload X.here hx rfl (hb hby hd) hl hv hr) k
theorem o_iload (H : oH p l e R s m args below meth c bc ml y rt Z n0 T h cells slots b I) {k : Nat} {v : Int32} (hl : L[k]? = some (.val (.int v))) (hd : decode bc pc = .ok (.iload k, 2)) (hp : pc + 2 = pc') (k : oG p e below s n0 kc ks J Q (T.setTop (mkF m pc' L (.int v :: S)))) : oG p e below s n0 kc ks J Q (T.setTop (mkF m pc L S)) := by
  obtain ⟨vm0, k0, locs, X, eT, N, hx, hby, hml, hZ, hown, hnm, hret, hlk, hn, hS, hk, hB, hI⟩ := H
  subst hp
  exact oG.go (fun t hr => XS.iload X.here hx rfl (hb hby hd) hl hr) k
theorem o_lload (H : oH p l e R s m args below meth c bc ml y rt Z n0 T h cells slots b I) {k : Nat} {v : Int64} (hl : L[k]? = some (.val (.long v))) (hd : decode bc pc = .ok (.lload k, 2)) (hp : pc + 2 = pc') (k : oG p e below s n0 kc ks J Q (T.setTop (mkF m pc' L (.long v :: S)))) : oG p e below s n0 kc ks J Q (T.setTop (mkF m pc L S)) := by
  obtain ⟨vm0, k0, locs, X, eT, N, hx, hby, hml, hZ, hown, hnm, hret, hlk, hn, hS, hk, hB, hI⟩ := H
  subst hp
  exact oG.go (fun t hr => XT.lload X.here hx rfl (hb hby hd) hl hr) k
theorem o_astore (H : oH p l e R s m args below meth c bc ml y rt Z n0 T h cells slots b I) {k : Nat} {v : Value} (hl : storeLocals L k v = some L') (hv : v.isRef = true) (hd : decode bc pc = .ok (.astore k, 2)) (hp : pc + 2 = pc') (k : oG p e below s n0 kc ks J Q (T.setTop (mkF m pc' L' S))) : oG p e below s n0 kc ks J Q (T.setTop (mkF m pc L (v :: S))) := by
  obtain ⟨vm0, k0, locs, X, eT, N, hx, hby, hml, hZ, hown, hnm, hret, hlk, hn, hS, hk, hB, hI⟩ := H
  subst hp
  exact oG.go (fun t hr => XS.astore X.here hx rfl (hb hby hd) rfl hv hl hr) k
theorem o_istore (H : oH p l e R s m args below meth c bc ml y rt Z n0 T h cells slots b I) {k : Nat} {v : Int32} (hl : storeLocals L k (.int v) = some L') (hd : decode bc pc = .ok (.istore k, 2)) (hp : pc + 2 = pc') (k : oG p e below s n0 kc ks J Q (T.setTop (mkF m pc' L' S))) : oG p e below s n0 kc ks J Q (T.setTop (mkF m pc L (.int v :: S))) := by
  obtain ⟨vm0, k0, locs, X, eT, N, hx, hby, hml, hZ, hown, hnm, hret, hlk, hn, hS, hk, hB, hI⟩ := H
  subst hp
  exact oG.go (fun t hr => XS.istore X.here hx rfl (hb hby hd) rfl hl hr) k
theorem o_lstore (H : oH p l e R s m args below meth c bc ml y rt Z n0 T h cells slots b I) {k : Nat} {v : Int64} (hl : storeLocals L k (.long v) = some L') (hd : decode bc pc = .ok (.lstore k, 2)) (hp : pc + 2 = pc') (k : oG p e below s n0 kc ks J Q (T.setTop (mkF m pc' L' S))) : oG p e below s n0 kc ks J Q (T.setTop (mkF m pc L (.long v :: S))) := by
  obtain ⟨vm0, k0, locs, X, eT, N, hx, hby, hml, hZ, hown, hnm, hret, hlk, hn, hS, hk, hB, hI⟩ := H
  subst hp
  exact oG.go (fun t hr => XT.lstore X.here hx rfl (hb hby hd) rfl hl hr) k
theorem o_iconst (H : oH p l e R s m args below meth c bc ml y rt Z n0 T h cells slots b I) {i : Int} (v : Int32) (hv : Int32.ofInt i = v) (hd : decode bc pc = .ok (.iconst i, 1)) (hp : pc + 1 = pc') (k : oG p e below s n0 kc ks J Q (T.setTop (mkF m pc' L (.int v :: S)))) : oG p e below s n0 kc ks J Q (T.setTop (mkF m pc L S)) := by
  obtain ⟨vm0, k0, locs, X, eT, N, hx, hby, hml, hZ, hown, hnm, hret, hlk, hn, hS, hk, hB, hI⟩ := H
  subst hp
  exact oG.go (fun t hr => XT.iconstV X.here hx rfl v (hb hby hd) hv hr) k
theorem o_bipush (H : oH p l e R s m args below meth c bc ml y rt Z n0 T h cells slots b I) {i : Int} (v : Int32) (hv : (Int8.ofInt i).toInt32 = v) (hd : decode bc pc = .ok (.bipush i, 2)) (hp : pc + 2 = pc') (k : oG p e below s n0 kc ks J Q (T.setTop (mkF m pc' L (.int v :: S)))) : oG p e below s n0 kc ks J Q (T.setTop (mkF m pc L S)) := by
  obtain ⟨vm0, k0, locs, X, eT, N, hx, hby, hml, hZ, hown, hnm, hret, hlk, hn, hS, hk, hB, hI⟩ := H
  subst hp
  exact oG.go (fun t hr => XT.bipushV X.here hx rfl v (hb hby hd) hv hr) k
theorem o_sipush (H : oH p l e R s m args below meth c bc ml y rt Z n0 T h cells slots b I) {i : Int} (v : Int32) (hv : (Int16.ofInt i).toInt32 = v) (hd : decode bc pc = .ok (.sipush i, 3)) (hp : pc + 3 = pc') (k : oG p e below s n0 kc ks J Q (T.setTop (mkF m pc' L (.int v :: S)))) : oG p e below s n0 kc ks J Q (T.setTop (mkF m pc L S)) := by
  obtain ⟨vm0, k0, locs, X, eT, N, hx, hby, hml, hZ, hown, hnm, hret, hlk, hn, hS, hk, hB, hI⟩ := H
  subst hp
  exact oG.go (fun t hr => XT.sipushV X.here hx rfl v (hb hby hd) hv hr) k
theorem o_lconst (H : oH p l e R s m args below meth c bc ml y rt Z n0 T h cells slots b I) {i : Fin 2} (v : Int64) (hv : Int64.ofNat i = v) (hd : decode bc pc = .ok (.lconst i, 1)) (hp : pc + 1 = pc') (k : oG p e below s n0 kc ks J Q (T.setTop (mkF m pc' L (.long v :: S)))) : oG p e below s n0 kc ks J Q (T.setTop (mkF m pc L S)) := by
  obtain ⟨vm0, k0, locs, X, eT, N, hx, hby, hml, hZ, hown, hnm, hret, hlk, hn, hS, hk, hB, hI⟩ := H
  subst hp
  exact oG.go (fun t hr => XT.lconstV X.here hx rfl v (hb hby hd) hv hr) k
theorem o_aconst_null (H : oH p l e R s m args below meth c bc ml y rt Z n0 T h cells slots b I)   (hd : decode bc pc = .ok (.aconst_null, 1)) (hp : pc + 1 = pc') (k : oG p e below s n0 kc ks J Q (T.setTop (mkF m pc' L (.null :: S)))) : oG p e below s n0 kc ks J Q (T.setTop (mkF m pc L S)) := by
  obtain ⟨vm0, k0, locs, X, eT, N, hx, hby, hml, hZ, hown, hnm, hret, hlk, hn, hS, hk, hB, hI⟩ := H
  subst hp
  exact oG.go (fun t hr => XS.aconstNull X.here hx rfl (hb hby hd) hr) k
theorem o_iadd (H : oH p l e R s m args below meth c bc ml y rt Z n0 T h cells slots b I) {x z : Int32}  (hd : decode bc pc = .ok (.iadd, 1)) (hp : pc + 1 = pc') (k : oG p e below s n0 kc ks J Q (T.setTop (mkF m pc' L (.int (x + z) :: S)))) : oG p e below s n0 kc ks J Q (T.setTop (mkF m pc L (.int z :: .int x :: S))) := by
  obtain ⟨vm0, k0, locs, X, eT, N, hx, hby, hml, hZ, hown, hnm, hret, hlk, hn, hS, hk, hB, hI⟩ := H
  subst hp
  exact oG.go (fun t hr => XS.iadd X.here hx rfl (hb hby hd) rfl hr) k
theorem o_isub (H : oH p l e R s m args below meth c bc ml y rt Z n0 T h cells slots b I) {x z : Int32}  (hd : decode bc pc = .ok (.isub, 1)) (hp : pc + 1 = pc') (k : oG p e below s n0 kc ks J Q (T.setTop (mkF m pc' L (.int (x - z) :: S)))) : oG p e below s n0 kc ks J Q (T.setTop (mkF m pc L (.int z :: .int x :: S))) := by
  obtain ⟨vm0, k0, locs, X, eT, N, hx, hby, hml, hZ, hown, hnm, hret, hlk, hn, hS, hk, hB, hI⟩ := H
  subst hp
  exact oG.go (fun t hr => XS.isub X.here hx rfl (hb hby hd) rfl hr) k
theorem o_imul (H : oH p l e R s m args below meth c bc ml y rt Z n0 T h cells slots b I) {x z : Int32}  (hd : decode bc pc = .ok (.imul, 1)) (hp : pc + 1 = pc') (k : oG p e below s n0 kc ks J Q (T.setTop (mkF m pc' L (.int (x * z) :: S)))) : oG p e below s n0 kc ks J Q (T.setTop (mkF m pc L (.int z :: .int x :: S))) := by
  obtain ⟨vm0, k0, locs, X, eT, N, hx, hby, hml, hZ, hown, hnm, hret, hlk, hn, hS, hk, hB, hI⟩ := H
  subst hp
  exact oG.go (fun t hr => XS.imul X.here hx rfl (hb hby hd) rfl hr) k
theorem o_iand (H : oH p l e R s m args below meth c bc ml y rt Z n0 T h cells slots b I) {x z : Int32}  (hd : decode bc pc = .ok (.iand, 1)) (hp : pc + 1 = pc') (k : oG p e below s n0 kc ks J Q (T.setTop (mkF m pc' L (.int (x &&& z) :: S)))) : oG p e below s n0 kc ks J Q (T.setTop (mkF m pc L (.int z :: .int x :: S))) := by
  obtain ⟨vm0, k0, locs, X, eT, N, hx, hby, hml, hZ, hown, hnm, hret, hlk, hn, hS, hk, hB, hI⟩ := H
  subst hp
  exact oG.go (fun t hr => XS.iand X.here hx rfl (hb hby hd) rfl hr) k
theorem o_ior (H : oH p l e R s m args below meth c bc ml y rt Z n0 T h cells slots b I) {x z : Int32}  (hd : decode bc pc = .ok (.ior, 1)) (hp : pc + 1 = pc') (k : oG p e below s n0 kc ks J Q (T.setTop (mkF m pc' L (.int (x ||| z) :: S)))) : oG p e below s n0 kc ks J Q (T.setTop (mkF m pc L (.int z :: .int x :: S))) := by
  obtain ⟨vm0, k0, locs, X, eT, N, hx, hby, hml, hZ, hown, hnm, hret, hlk, hn, hS, hk, hB, hI⟩ := H
  subst hp
  exact oG.go (fun t hr => XT.ior X.here hx rfl (hb hby hd) rfl hr) k
theorem o_ixor (H : oH p l e R s m args below meth c bc ml y rt Z n0 T h cells slots b I) {x z : Int32}  (hd : decode bc pc = .ok (.ixor, 1)) (hp : pc + 1 = pc') (k : oG p e below s n0 kc ks J Q (T.setTop (mkF m pc' L (.int (x ^^^ z) :: S)))) : oG p e below s n0 kc ks J Q (T.setTop (mkF m pc L (.int z :: .int x :: S))) := by
  obtain ⟨vm0, k0, locs, X, eT, N, hx, hby, hml, hZ, hown, hnm, hret, hlk, hn, hS, hk, hB, hI⟩ := H
  subst hp
  exact oG.go (fun t hr => XT.ixor X.here hx rfl (hb hby hd) rfl hr) k
theorem o_ishl (H : oH p l e R s m args below meth c bc ml y rt Z n0 T h cells slots b I) {x z : Int32}  (hd : decode bc pc = .ok (.ishl, 1)) (hp : pc + 1 = pc') (k : oG p e below s n0 kc ks J Q (T.setTop (mkF m pc' L (.int (x <<< (z &&& 31)) :: S)))) : oG p e below s n0 kc ks J Q (T.setTop (mkF m pc L (.int z :: .int x :: S))) := by
  obtain ⟨vm0, k0, locs, X, eT, N, hx, hby, hml, hZ, hown, hnm, hret, hlk, hn, hS, hk, hB, hI⟩ := H
  subst hp
  exact oG.go (fun t hr => XT.ishl X.here hx rfl (hb hby hd) rfl hr) k
theorem o_ishr (H : oH p l e R s m args below meth c bc ml y rt Z n0 T h cells slots b I) {x z : Int32}  (hd : decode bc pc = .ok (.ishr, 1)) (hp : pc + 1 = pc') (k : oG p e below s n0 kc ks J Q (T.setTop (mkF m pc' L (.int (x >>> (z &&& 31)) :: S)))) : oG p e below s n0 kc ks J Q (T.setTop (mkF m pc L (.int z :: .int x :: S))) := by
  obtain ⟨vm0, k0, locs, X, eT, N, hx, hby, hml, hZ, hown, hnm, hret, hlk, hn, hS, hk, hB, hI⟩ := H
  subst hp
  exact oG.go (fun t hr => XT.ishr X.here hx rfl (hb hby hd) rfl hr) k
theorem o_iushr (H : oH p l e R s m args below meth c bc ml y rt Z n0 T h cells slots b I) {x z : Int32}  (hd : decode bc pc = .ok (.iushr, 1)) (hp : pc + 1 = pc') (k : oG p e below s n0 kc ks J Q (T.setTop (mkF m pc' L (.int (XT.ushr x z) :: S)))) : oG p e below s n0 kc ks J Q (T.setTop (mkF m pc L (.int z :: .int x :: S))) := by
  obtain ⟨vm0, k0, locs, X, eT, N, hx, hby, hml, hZ, hown, hnm, hret, hlk, hn, hS, hk, hB, hI⟩ := H
  subst hp
  exact oG.go (fun t hr => XT.iushr X.here hx rfl (hb hby hd) rfl hr) k
theorem o_ladd (H : oH p l e R s m args below meth c bc ml y rt Z n0 T h cells slots b I) {x z : Int64}  (hd : decode bc pc = .ok (.ladd, 1)) (hp : pc + 1 = pc') (k : oG p e below s n0 kc ks J Q (T.setTop (mkF m pc' L (.long (x + z) :: S)))) : oG p e below s n0 kc ks J Q (T.setTop (mkF m pc L (.long z :: .long x :: S))) := by
  obtain ⟨vm0, k0, locs, X, eT, N, hx, hby, hml, hZ, hown, hnm, hret, hlk, hn, hS, hk, hB, hI⟩ := H
  subst hp
  exact oG.go (fun t hr => XT.ladd X.here hx rfl (hb hby hd) rfl hr) k
theorem o_lsub (H : oH p l e R s m args below meth c bc ml y rt Z n0 T h cells slots b I) {x z : Int64}  (hd : decode bc pc = .ok (.lsub, 1)) (hp : pc + 1 = pc') (k : oG p e below s n0 kc ks J Q (T.setTop (mkF m pc' L (.long (x - z) :: S)))) : oG p e below s n0 kc ks J Q (T.setTop (mkF m pc L (.long z :: .long x :: S))) := by
  obtain ⟨vm0, k0, locs, X, eT, N, hx, hby, hml, hZ, hown, hnm, hret, hlk, hn, hS, hk, hB, hI⟩ := H
  subst hp
  exact oG.go (fun t hr => XT.lsub X.here hx rfl (hb hby hd) rfl hr) k
theorem o_lmul (H : oH p l e R s m args below meth c bc ml y rt Z n0 T h cells slots b I) {x z : Int64}  (hd : decode bc pc = .ok (.lmul, 1)) (hp : pc + 1 = pc') (k : oG p e below s n0 kc ks J Q (T.setTop (mkF m pc' L (.long (x * z) :: S)))) : oG p e below s n0 kc ks J Q (T.setTop (mkF m pc L (.long z :: .long x :: S))) := by
  obtain ⟨vm0, k0, locs, X, eT, N, hx, hby, hml, hZ, hown, hnm, hret, hlk, hn, hS, hk, hB, hI⟩ := H
  subst hp
  exact oG.go (fun t hr => XT.lmul X.here hx rfl (hb hby hd) rfl hr) k
theorem o_land (H : oH p l e R s m args below meth c bc ml y rt Z n0 T h cells slots b I) {x z : Int64}  (hd : decode bc pc = .ok (.land, 1)) (hp : pc + 1 = pc') (k : oG p e below s n0 kc ks J Q (T.setTop (mkF m pc' L (.long (x &&& z) :: S)))) : oG p e below s n0 kc ks J Q (T.setTop (mkF m pc L (.long z :: .long x :: S))) := by
  obtain ⟨vm0, k0, locs, X, eT, N, hx, hby, hml, hZ, hown, hnm, hret, hlk, hn, hS, hk, hB, hI⟩ := H
  subst hp
  exact oG.go (fun t hr => XT.land X.here hx rfl (hb hby hd) rfl hr) k
theorem o_lor (H : oH p l e R s m args below meth c bc ml y rt Z n0 T h cells slots b I) {x z : Int64}  (hd : decode bc pc = .ok (.lor, 1)) (hp : pc + 1 = pc') (k : oG p e below s n0 kc ks J Q (T.setTop (mkF m pc' L (.long (x ||| z) :: S)))) : oG p e below s n0 kc ks J Q (T.setTop (mkF m pc L (.long z :: .long x :: S))) := by
  obtain ⟨vm0, k0, locs, X, eT, N, hx, hby, hml, hZ, hown, hnm, hret, hlk, hn, hS, hk, hB, hI⟩ := H
  subst hp
  exact oG.go (fun t hr => XT.lor X.here hx rfl (hb hby hd) rfl hr) k
theorem o_lxor (H : oH p l e R s m args below meth c bc ml y rt Z n0 T h cells slots b I) {x z : Int64}  (hd : decode bc pc = .ok (.lxor, 1)) (hp : pc + 1 = pc') (k : oG p e below s n0 kc ks J Q (T.setTop (mkF m pc' L (.long (x ^^^ z) :: S)))) : oG p e below s n0 kc ks J Q (T.setTop (mkF m pc L (.long z :: .long x :: S))) := by
  obtain ⟨vm0, k0, locs, X, eT, N, hx, hby, hml, hZ, hown, hnm, hret, hlk, hn, hS, hk, hB, hI⟩ := H
  subst hp
  exact oG.go (fun t hr => XT.lxor X.here hx rfl (hb hby hd) rfl hr) k
theorem o_lcmp (H : oH p l e R s m args below meth c bc ml y rt Z n0 T h cells slots b I) {x z : Int64}  (hd : decode bc pc = .ok (.lcmp, 1)) (hp : pc + 1 = pc') (k : oG p e below s n0 kc ks J Q (T.setTop (mkF m pc' L (.int (XT.cmpL x z) :: S)))) : oG p e below s n0 kc ks J Q (T.setTop (mkF m pc L (.long z :: .long x :: S))) := by
  obtain ⟨vm0, k0, locs, X, eT, N, hx, hby, hml, hZ, hown, hnm, hret, hlk, hn, hS, hk, hB, hI⟩ := H
  subst hp
  exact oG.go (fun t hr => XT.lcmp X.here hx rfl (hb hby hd) rfl hr) k
theorem o_lshl (H : oH p l e R s m args below meth c bc ml y rt Z n0 T h cells slots b I) {x : Int64} {z : Int32}  (hd : decode bc pc = .ok (.lshl, 1)) (hp : pc + 1 = pc') (k : oG p e below s n0 kc ks J Q (T.setTop (mkF m pc' L (.long (x <<< (z.toInt64 &&& 63)) :: S)))) : oG p e below s n0 kc ks J Q (T.setTop (mkF m pc L (.int z :: .long x :: S))) := by
  obtain ⟨vm0, k0, locs, X, eT, N, hx, hby, hml, hZ, hown, hnm, hret, hlk, hn, hS, hk, hB, hI⟩ := H
  subst hp
  exact oG.go (fun t hr => XT.lshl X.here hx rfl (hb hby hd) rfl hr) k
theorem o_lshr (H : oH p l e R s m args below meth c bc ml y rt Z n0 T h cells slots b I) {x : Int64} {z : Int32}  (hd : decode bc pc = .ok (.lshr, 1)) (hp : pc + 1 = pc') (k : oG p e below s n0 kc ks J Q (T.setTop (mkF m pc' L (.long (x >>> (z.toInt64 &&& 63)) :: S)))) : oG p e below s n0 kc ks J Q (T.setTop (mkF m pc L (.int z :: .long x :: S))) := by
  obtain ⟨vm0, k0, locs, X, eT, N, hx, hby, hml, hZ, hown, hnm, hret, hlk, hn, hS, hk, hB, hI⟩ := H
  subst hp
  exact oG.go (fun t hr => XT.lshr X.here hx rfl (hb hby hd) rfl hr) k
theorem o_lushr (H : oH p l e R s m args below meth c bc ml y rt Z n0 T h cells slots b I) {x : Int64} {z : Int32}  (hd : decode bc pc = .ok (.lushr, 1)) (hp : pc + 1 = pc') (k : oG p e below s n0 kc ks J Q (T.setTop (mkF m pc' L (.long (XT.ushrL x z) :: S)))) : oG p e below s n0 kc ks J Q (T.setTop (mkF m pc L (.int z :: .long x :: S))) := by
  obtain ⟨vm0, k0, locs, X, eT, N, hx, hby, hml, hZ, hown, hnm, hret, hlk, hn, hS, hk, hB, hI⟩ := H
  subst hp
  exact oG.go (fun t hr => XT.lushr X.here hx rfl (hb hby hd) rfl hr) k
theorem o_idiv (H : oH p l e R s m args below meth c bc ml y rt Z n0 T h cells slots b I) {x z : Int32} (hz : z ≠ 0) (hd : decode bc pc = .ok (.idiv, 1)) (hp : pc + 1 = pc') (k : oG p e below s n0 kc ks J Q (T.setTop (mkF m pc' L (.int (x / z) :: S)))) : oG p e below s n0 kc ks J Q (T.setTop (mkF m pc L (.int z :: .int x :: S))) := by
  obtain ⟨vm0, k0, locs, X, eT, N, hx, hby, hml, hZ, hown, hnm, hret, hlk, hn, hS, hk, hB, hI⟩ := H
  subst hp
  exact oG.go (fun t hr => XS.idiv X.here hx rfl (hb hby hd) rfl hz hr) k
theorem o_irem (H : oH p l e R s m args below meth c bc ml y rt Z n0 T h cells slots b I) {x z : Int32} (hz : z ≠ 0) (hd : decode bc pc = .ok (.irem, 1)) (hp : pc + 1 = pc') (k : oG p e below s n0 kc ks J Q (T.setTop (mkF m pc' L (.int (x % z) :: S)))) : oG p e below s n0 kc ks J Q (T.setTop (mkF m pc L (.int z :: .int x :: S))) := by
  obtain ⟨vm0, k0, locs, X, eT, N, hx, hby, hml, hZ, hown, hnm, hret, hlk, hn, hS, hk, hB, hI⟩ := H
  subst hp
  exact oG.go (fun t hr => iremM X hx rfl (hb hby hd) rfl hz hr) k
theorem o_ineg (H : oH p l e R s m args below meth c bc ml y rt Z n0 T h cells slots b I) {x : Int32}  (hd : decode bc pc = .ok (.ineg, 1)) (hp : pc + 1 = pc') (k : oG p e below s n0 kc ks J Q (T.setTop (mkF m pc' L (.int (-x) :: S)))) : oG p e below s n0 kc ks J Q (T.setTop (mkF m pc L (.int x :: S))) := by
  obtain ⟨vm0, k0, locs, X, eT, N, hx, hby, hml, hZ, hown, hnm, hret, hlk, hn, hS, hk, hB, hI⟩ := H
  subst hp
  exact oG.go (fun t hr => XS.ineg X.here hx rfl (hb hby hd) rfl hr) k
theorem o_lneg (H : oH p l e R s m args below meth c bc ml y rt Z n0 T h cells slots b I) {x : Int64}  (hd : decode bc pc = .ok (.lneg, 1)) (hp : pc + 1 = pc') (k : oG p e below s n0 kc ks J Q (T.setTop (mkF m pc' L (.long (-x) :: S)))) : oG p e below s n0 kc ks J Q (T.setTop (mkF m pc L (.long x :: S))) := by
  obtain ⟨vm0, k0, locs, X, eT, N, hx, hby, hml, hZ, hown, hnm, hret, hlk, hn, hS, hk, hB, hI⟩ := H
  subst hp
  exact oG.go (fun t hr => XT.lneg X.here hx rfl (hb hby hd) rfl hr) k
theorem o_i2l (H : oH p l e R s m args below meth c bc ml y rt Z n0 T h cells slots b I) {x : Int32}  (hd : decode bc pc = .ok (.i2l, 1)) (hp : pc + 1 = pc') (k : oG p e below s n0 kc ks J Q (T.setTop (mkF m pc' L (.long x.toInt64 :: S)))) : oG p e below s n0 kc ks J Q (T.setTop (mkF m pc L (.int x :: S))) := by
  obtain ⟨vm0, k0, locs, X, eT, N, hx, hby, hml, hZ, hown, hnm, hret, hlk, hn, hS, hk, hB, hI⟩ := H
  subst hp
  exact oG.go (fun t hr => XT.i2l X.here hx rfl (hb hby hd) rfl hr) k
theorem o_l2i (H : oH p l e R s m args below meth c bc ml y rt Z n0 T h cells slots b I) {x : Int64}  (hd : decode bc pc = .ok (.l2i, 1)) (hp : pc + 1 = pc') (k : oG p e below s n0 kc ks J Q (T.setTop (mkF m pc' L (.int x.toInt32 :: S)))) : oG p e below s n0 kc ks J Q (T.setTop (mkF m pc L (.long x :: S))) := by
  obtain ⟨vm0, k0, locs, X, eT, N, hx, hby, hml, hZ, hown, hnm, hret, hlk, hn, hS, hk, hB, hI⟩ := H
  subst hp
  exact oG.go (fun t hr => XT.l2i X.here hx rfl (hb hby hd) rfl hr) k
theorem o_i2b (H : oH p l e R s m args below meth c bc ml y rt Z n0 T h cells slots b I) {x : Int32}  (hd : decode bc pc = .ok (.i2b, 1)) (hp : pc + 1 = pc') (k : oG p e below s n0 kc ks J Q (T.setTop (mkF m pc' L (.int x.toInt8.toInt32 :: S)))) : oG p e below s n0 kc ks J Q (T.setTop (mkF m pc L (.int x :: S))) := by
  obtain ⟨vm0, k0, locs, X, eT, N, hx, hby, hml, hZ, hown, hnm, hret, hlk, hn, hS, hk, hB, hI⟩ := H
  subst hp
  exact oG.go (fun t hr => XT.i2b X.here hx rfl (hb hby hd) rfl hr) k
theorem o_i2c (H : oH p l e R s m args below meth c bc ml y rt Z n0 T h cells slots b I) {x : Int32}  (hd : decode bc pc = .ok (.i2c, 1)) (hp : pc + 1 = pc') (k : oG p e below s n0 kc ks J Q (T.setTop (mkF m pc' L (.int x.toUInt32.toUInt16.toUInt32.toInt32 :: S)))) : oG p e below s n0 kc ks J Q (T.setTop (mkF m pc L (.int x :: S))) := by
  obtain ⟨vm0, k0, locs, X, eT, N, hx, hby, hml, hZ, hown, hnm, hret, hlk, hn, hS, hk, hB, hI⟩ := H
  subst hp
  exact oG.go (fun t hr => XT.i2c X.here hx rfl (hb hby hd) rfl hr) k
theorem o_i2s (H : oH p l e R s m args below meth c bc ml y rt Z n0 T h cells slots b I) {x : Int32}  (hd : decode bc pc = .ok (.i2s, 1)) (hp : pc + 1 = pc') (k : oG p e below s n0 kc ks J Q (T.setTop (mkF m pc' L (.int x.toInt16.toInt32 :: S)))) : oG p e below s n0 kc ks J Q (T.setTop (mkF m pc L (.int x :: S))) := by
  obtain ⟨vm0, k0, locs, X, eT, N, hx, hby, hml, hZ, hown, hnm, hret, hlk, hn, hS, hk, hB, hI⟩ := H
  subst hp
  exact oG.go (fun t hr => XT.i2s X.here hx rfl (hb hby hd) rfl hr) k
theorem o_iinc (H : oH p l e R s m args below meth c bc ml y rt Z n0 T h cells slots b I) {j : Nat} {cst : Int} {x : Int32} (v u : Int32) (hv : Int32.ofInt cst = v) (hu : x + v = u) (hl : L[j]? = some (.val (.int x))) (hl' : storeLocals L j (.int u) = some L') (hd : decode bc pc = .ok (.iinc j cst, 3)) (hp : pc + 3 = pc') (k : oG p e below s n0 kc ks J Q (T.setTop (mkF m pc' L' S))) : oG p e below s n0 kc ks J Q (T.setTop (mkF m pc L S)) := by
  obtain ⟨vm0, k0, locs, X, eT, N, hx, hby, hml, hZ, hown, hnm, hret, hlk, hn, hS, hk, hB, hI⟩ := H
  subst hp
  exact oG.go (fun t hr => XT.iincV X.here hx rfl v (hb hby hd) hv hl (hu ▸ hl') hr) k
theorem o_fold {x : Int32} (v : Int32) (hv : x = v) (k : oG p e below s n0 kc ks J Q (T.setTop (mkF m pc L (.int v :: S)))) : oG p e below s n0 kc ks J Q (T.setTop (mkF m pc L (.int x :: S))) := hv ▸ k
theorem o_foldJ {x : Int64} (v : Int64) (hv : x = v) (k : oG p e below s n0 kc ks J Q (T.setTop (mkF m pc L (.long v :: S)))) : oG p e below s n0 kc ks J Q (T.setTop (mkF m pc L (.long x :: S))) := hv ▸ k
theorem o_dup (H : oH p l e R s m args below meth c bc ml y rt Z n0 T h cells slots b I) {v : Value} (hc : v.category = 1) (hd : decode bc pc = .ok (.dup, 1)) (hp : pc + 1 = pc') (k : oG p e below s n0 kc ks J Q (T.setTop (mkF m pc' L (v :: v :: S)))) : oG p e below s n0 kc ks J Q (T.setTop (mkF m pc L (v :: S))) := by
  obtain ⟨vm0, k0, locs, X, eT, N, hx, hby, hml, hZ, hown, hnm, hret, hlk, hn, hS, hk, hB, hI⟩ := H
  subst hp
  exact oG.go (fun t hr => XS.dup X.here hx rfl (hb hby hd) rfl hc hr) k
theorem o_dup_x1 (H : oH p l e R s m args below meth c bc ml y rt Z n0 T h cells slots b I) {v w : Value} (hc : v.category = 1) (hc' : w.category = 1) (hd : decode bc pc = .ok (.dup_x1, 1)) (hp : pc + 1 = pc') (k : oG p e below s n0 kc ks J Q (T.setTop (mkF m pc' L (v :: w :: v :: S)))) : oG p e below s n0 kc ks J Q (T.setTop (mkF m pc L (v :: w :: S))) := by
  obtain ⟨vm0, k0, locs, X, eT, N, hx, hby, hml, hZ, hown, hnm, hret, hlk, hn, hS, hk, hB, hI⟩ := H
  subst hp
  exact oG.go (fun t hr => XT.dupX1 X.here hx rfl (hb hby hd) rfl hc hc' hr) k
theorem o_dup2 (H : oH p l e R s m args below meth c bc ml y rt Z n0 T h cells slots b I) {v w : Value} (hc : v.category = 1) (hc' : w.category = 1) (hd : decode bc pc = .ok (.dup2, 1)) (hp : pc + 1 = pc') (k : oG p e below s n0 kc ks J Q (T.setTop (mkF m pc' L (v :: w :: v :: w :: S)))) : oG p e below s n0 kc ks J Q (T.setTop (mkF m pc L (v :: w :: S))) := by
  obtain ⟨vm0, k0, locs, X, eT, N, hx, hby, hml, hZ, hown, hnm, hret, hlk, hn, hS, hk, hB, hI⟩ := H
  subst hp
  exact oG.go (fun t hr => XT.dup2 X.here hx rfl (hb hby hd) rfl hc hc' hr) k
theorem o_dup2L (H : oH p l e R s m args below meth c bc ml y rt Z n0 T h cells slots b I) {v : Int64}  (hd : decode bc pc = .ok (.dup2, 1)) (hp : pc + 1 = pc') (k : oG p e below s n0 kc ks J Q (T.setTop (mkF m pc' L (.long v :: .long v :: S)))) : oG p e below s n0 kc ks J Q (T.setTop (mkF m pc L (.long v :: S))) := by
  obtain ⟨vm0, k0, locs, X, eT, N, hx, hby, hml, hZ, hown, hnm, hret, hlk, hn, hS, hk, hB, hI⟩ := H
  subst hp
  exact oG.go (fun t hr => XT.dup2L X.here hx rfl (hb hby hd) rfl hr) k
theorem o_pop (H : oH p l e R s m args below meth c bc ml y rt Z n0 T h cells slots b I) {v : Value} (hc : v.category = 1) (hd : decode bc pc = .ok (.pop, 1)) (hp : pc + 1 = pc') (k : oG p e below s n0 kc ks J Q (T.setTop (mkF m pc' L S))) : oG p e below s n0 kc ks J Q (T.setTop (mkF m pc L (v :: S))) := by
  obtain ⟨vm0, k0, locs, X, eT, N, hx, hby, hml, hZ, hown, hnm, hret, hlk, hn, hS, hk, hB, hI⟩ := H
  subst hp
  exact oG.go (fun t hr => XT.pop X.here hx rfl (hb hby hd) rfl hc hr) k
theorem o_one {i : Nat} {v : Value} {sl : Slot} (hs : L[i]? = some sl) (h1 : sl = .unset ∨ ∃ z, sl = .val (.int z)) (hv : v.category = 1) : storeLocals L i v = some (L.setIfInBounds i (.val v)) :=
  XS.store1 hs (h1.imp id fun ⟨z, q⟩ => ⟨.int z, q, rfl⟩) hv
theorem o_len {vs : List Int32} : (vs.map Value.int).length.toInt32 = Int32.ofNat vs.length := by rw [List.length_map]
theorem o_get {vs : List Int32} {i : Nat} (h : i < vs.length) : (vs.map Value.int)[i]? = some (.int (vs[i]'h)) := by simp [h]
theorem o_ofNat {n : Nat} (h : n < 2147483648) : (Int32.ofNat n).toInt = n := Int32.toInt_ofNat_of_lt (by omega)
theorem o_lenJ {vs : List Int64} : (vs.map Value.long).length.toInt32 = Int32.ofNat vs.length := by rw [List.length_map]
theorem o_getJ {vs : List Int64} {i : Nat} (h : i < vs.length) : (vs.map Value.long)[i]? = some (.long (vs[i]'h)) := by simp [h]
theorem o_succ {n : Nat} : Int32.ofNat n + 1 = Int32.ofNat (n + 1) := (Int32.ofNat_add n 1).symm
theorem o_bt {A : Prop} [Decidable A] {b : Int32} (e : b = if A then (1 : Int32) else 0) (q : ¬ b = 0) : A := by
  by_cases a : A
  · exact a
  · rw [if_neg a] at e; exact absurd e q
theorem o_bf {A : Prop} [Decidable A] {b : Int32} (e : b = if A then (1 : Int32) else 0) (q : b = 0) : ¬ A := by
  intro a
  exact absurd ((e.trans (if_pos a)).symm.trans q) (by decide)
theorem o_goto (H : oH p l e R s m args below meth c bc ml y rt Z n0 T h cells slots b I) {o : Int} (hd : decode bc pc = .ok (.goto o, 3)) (ho : 0 ≤ (pc : Int) + o) (hp : ((pc : Int) + o).toNat = pt) (k : oG p e below s n0 kc ks J Q (T.setTop (mkF m pt L S))) : oG p e below s n0 kc ks J Q (T.setTop (mkF m pc L S)) := by
  obtain ⟨vm0, k0, locs, X, eT, N, hx, hby, hml, hZ, hown, hnm, hret, hlk, hn, hS, hk, hB, hI⟩ := H
  exact oG.go (fun t hr => XS.goto X.here hx rfl rfl (hb hby hd) ho hp hr) k
theorem o_icmp_eq (H : oH p l e R s m args below meth c bc ml y rt Z n0 T h cells slots b I) {o : Int} {x z : Int32} (hd : decode bc pc = .ok (.if_icmp .eq o, 3)) (ho : 0 ≤ (pc : Int) + o) (hp : ((pc : Int) + o).toNat = pt) (hp' : pc + 3 = pc') (kt : x = z → oG p e below s n0 kc ks J Q (T.setTop (mkF m pt L S))) (kf : ¬ x = z → oG p e below s n0 kc ks J Q (T.setTop (mkF m pc' L S))) : oG p e below s n0 kc ks J Q (T.setTop (mkF m pc L (.int z :: .int x :: S))) := by
  by_cases q : x = z
  · have k := kt q
    obtain ⟨vm0, k0, locs, X, eT, N, hx, hby, hml, hZ, hown, hnm, hret, hlk, hn, hS, hk, hB, hI⟩ := H
    exact oG.go (fun t hr => XS.icmpYes X.here hx rfl rfl (hb hby hd) rfl (XT.ii_eq_t q) ho hp hr) k
  · have k := kf q
    obtain ⟨vm0, k0, locs, X, eT, N, hx, hby, hml, hZ, hown, hnm, hret, hlk, hn, hS, hk, hB, hI⟩ := H
    subst hp'
    exact oG.go (fun t hr => XS.icmpNo X.here hx rfl (hb hby hd) rfl (XT.ii_eq_f q) hr) k
theorem o_if_eq (H : oH p l e R s m args below meth c bc ml y rt Z n0 T h cells slots b I) {o : Int} {x : Int32} (hd : decode bc pc = .ok (.ifCond .eq o, 3)) (ho : 0 ≤ (pc : Int) + o) (hp : ((pc : Int) + o).toNat = pt) (hp' : pc + 3 = pc') (kt : x = 0 → oG p e below s n0 kc ks J Q (T.setTop (mkF m pt L S))) (kf : ¬ x = 0 → oG p e below s n0 kc ks J Q (T.setTop (mkF m pc' L S))) : oG p e below s n0 kc ks J Q (T.setTop (mkF m pc L (.int x :: S))) := by
  by_cases q : x = 0
  · have k := kt q
    obtain ⟨vm0, k0, locs, X, eT, N, hx, hby, hml, hZ, hown, hnm, hret, hlk, hn, hS, hk, hB, hI⟩ := H
    exact oG.go (fun t hr => XS.ifYes X.here hx rfl rfl (hb hby hd) rfl (XT.i0_eq_t q) ho hp hr) k
  · have k := kf q
    obtain ⟨vm0, k0, locs, X, eT, N, hx, hby, hml, hZ, hown, hnm, hret, hlk, hn, hS, hk, hB, hI⟩ := H
    subst hp'
    exact oG.go (fun t hr => XS.ifNo X.here hx rfl (hb hby hd) rfl (XT.i0_eq_f q) hr) k
theorem o_ifl_eq (H : oH p l e R s m args below meth c bc ml y rt Z n0 T h cells slots b I) {o : Int} {x z : Int64} (hd : decode bc pc = .ok (.ifCond .eq o, 3)) (ho : 0 ≤ (pc : Int) + o) (hp : ((pc : Int) + o).toNat = pt) (hp' : pc + 3 = pc') (kt : x = z → oG p e below s n0 kc ks J Q (T.setTop (mkF m pt L S))) (kf : ¬ x = z → oG p e below s n0 kc ks J Q (T.setTop (mkF m pc' L S))) : oG p e below s n0 kc ks J Q (T.setTop (mkF m pc L (.int (XT.cmpL x z) :: S))) := by
  by_cases q : x = z
  · have k := kt q
    obtain ⟨vm0, k0, locs, X, eT, N, hx, hby, hml, hZ, hown, hnm, hret, hlk, hn, hS, hk, hB, hI⟩ := H
    exact oG.go (fun t hr => XS.ifYes X.here hx rfl rfl (hb hby hd) rfl (XT.ll_eq_t q) ho hp hr) k
  · have k := kf q
    obtain ⟨vm0, k0, locs, X, eT, N, hx, hby, hml, hZ, hown, hnm, hret, hlk, hn, hS, hk, hB, hI⟩ := H
    subst hp'
    exact oG.go (fun t hr => XS.ifNo X.here hx rfl (hb hby hd) rfl (XT.ll_eq_f q) hr) k
theorem o_icmp_ne (H : oH p l e R s m args below meth c bc ml y rt Z n0 T h cells slots b I) {o : Int} {x z : Int32} (hd : decode bc pc = .ok (.if_icmp .ne o, 3)) (ho : 0 ≤ (pc : Int) + o) (hp : ((pc : Int) + o).toNat = pt) (hp' : pc + 3 = pc') (kt : ¬ x = z → oG p e below s n0 kc ks J Q (T.setTop (mkF m pt L S))) (kf : x = z → oG p e below s n0 kc ks J Q (T.setTop (mkF m pc' L S))) : oG p e below s n0 kc ks J Q (T.setTop (mkF m pc L (.int z :: .int x :: S))) := by
  by_cases q : ¬ x = z
  · have k := kt q
    obtain ⟨vm0, k0, locs, X, eT, N, hx, hby, hml, hZ, hown, hnm, hret, hlk, hn, hS, hk, hB, hI⟩ := H
    exact oG.go (fun t hr => XS.icmpYes X.here hx rfl rfl (hb hby hd) rfl (XT.ii_ne_t q) ho hp hr) k
  · have k := kf (Classical.not_not.mp q)
    obtain ⟨vm0, k0, locs, X, eT, N, hx, hby, hml, hZ, hown, hnm, hret, hlk, hn, hS, hk, hB, hI⟩ := H
    subst hp'
    exact oG.go (fun t hr => XS.icmpNo X.here hx rfl (hb hby hd) rfl (XT.ii_ne_f (Classical.not_not.mp q)) hr) k
theorem o_if_ne (H : oH p l e R s m args below meth c bc ml y rt Z n0 T h cells slots b I) {o : Int} {x : Int32} (hd : decode bc pc = .ok (.ifCond .ne o, 3)) (ho : 0 ≤ (pc : Int) + o) (hp : ((pc : Int) + o).toNat = pt) (hp' : pc + 3 = pc') (kt : ¬ x = 0 → oG p e below s n0 kc ks J Q (T.setTop (mkF m pt L S))) (kf : x = 0 → oG p e below s n0 kc ks J Q (T.setTop (mkF m pc' L S))) : oG p e below s n0 kc ks J Q (T.setTop (mkF m pc L (.int x :: S))) := by
  by_cases q : ¬ x = 0
  · have k := kt q
    obtain ⟨vm0, k0, locs, X, eT, N, hx, hby, hml, hZ, hown, hnm, hret, hlk, hn, hS, hk, hB, hI⟩ := H
    exact oG.go (fun t hr => XS.ifYes X.here hx rfl rfl (hb hby hd) rfl (XT.i0_ne_t q) ho hp hr) k
  · have k := kf (Classical.not_not.mp q)
    obtain ⟨vm0, k0, locs, X, eT, N, hx, hby, hml, hZ, hown, hnm, hret, hlk, hn, hS, hk, hB, hI⟩ := H
    subst hp'
    exact oG.go (fun t hr => XS.ifNo X.here hx rfl (hb hby hd) rfl (XT.i0_ne_f (Classical.not_not.mp q)) hr) k
theorem o_ifl_ne (H : oH p l e R s m args below meth c bc ml y rt Z n0 T h cells slots b I) {o : Int} {x z : Int64} (hd : decode bc pc = .ok (.ifCond .ne o, 3)) (ho : 0 ≤ (pc : Int) + o) (hp : ((pc : Int) + o).toNat = pt) (hp' : pc + 3 = pc') (kt : ¬ x = z → oG p e below s n0 kc ks J Q (T.setTop (mkF m pt L S))) (kf : x = z → oG p e below s n0 kc ks J Q (T.setTop (mkF m pc' L S))) : oG p e below s n0 kc ks J Q (T.setTop (mkF m pc L (.int (XT.cmpL x z) :: S))) := by
  by_cases q : ¬ x = z
  · have k := kt q
    obtain ⟨vm0, k0, locs, X, eT, N, hx, hby, hml, hZ, hown, hnm, hret, hlk, hn, hS, hk, hB, hI⟩ := H
    exact oG.go (fun t hr => XS.ifYes X.here hx rfl rfl (hb hby hd) rfl (XT.ll_ne_t q) ho hp hr) k
  · have k := kf (Classical.not_not.mp q)
    obtain ⟨vm0, k0, locs, X, eT, N, hx, hby, hml, hZ, hown, hnm, hret, hlk, hn, hS, hk, hB, hI⟩ := H
    subst hp'
    exact oG.go (fun t hr => XS.ifNo X.here hx rfl (hb hby hd) rfl (XT.ll_ne_f (Classical.not_not.mp q)) hr) k
theorem o_icmp_lt (H : oH p l e R s m args below meth c bc ml y rt Z n0 T h cells slots b I) {o : Int} {x z : Int32} (hd : decode bc pc = .ok (.if_icmp .lt o, 3)) (ho : 0 ≤ (pc : Int) + o) (hp : ((pc : Int) + o).toNat = pt) (hp' : pc + 3 = pc') (kt : x < z → oG p e below s n0 kc ks J Q (T.setTop (mkF m pt L S))) (kf : ¬ x < z → oG p e below s n0 kc ks J Q (T.setTop (mkF m pc' L S))) : oG p e below s n0 kc ks J Q (T.setTop (mkF m pc L (.int z :: .int x :: S))) := by
  by_cases q : x < z
  · have k := kt q
    obtain ⟨vm0, k0, locs, X, eT, N, hx, hby, hml, hZ, hown, hnm, hret, hlk, hn, hS, hk, hB, hI⟩ := H
    exact oG.go (fun t hr => XS.icmpYes X.here hx rfl rfl (hb hby hd) rfl (XT.ii_lt_t q) ho hp hr) k
  · have k := kf q
    obtain ⟨vm0, k0, locs, X, eT, N, hx, hby, hml, hZ, hown, hnm, hret, hlk, hn, hS, hk, hB, hI⟩ := H
    subst hp'
    exact oG.go (fun t hr => XS.icmpNo X.here hx rfl (hb hby hd) rfl (XT.ii_lt_f q) hr) k
theorem o_if_lt (H : oH p l e R s m args below meth c bc ml y rt Z n0 T h cells slots b I) {o : Int} {x : Int32} (hd : decode bc pc = .ok (.ifCond .lt o, 3)) (ho : 0 ≤ (pc : Int) + o) (hp : ((pc : Int) + o).toNat = pt) (hp' : pc + 3 = pc') (kt : x < 0 → oG p e below s n0 kc ks J Q (T.setTop (mkF m pt L S))) (kf : ¬ x < 0 → oG p e below s n0 kc ks J Q (T.setTop (mkF m pc' L S))) : oG p e below s n0 kc ks J Q (T.setTop (mkF m pc L (.int x :: S))) := by
  by_cases q : x < 0
  · have k := kt q
    obtain ⟨vm0, k0, locs, X, eT, N, hx, hby, hml, hZ, hown, hnm, hret, hlk, hn, hS, hk, hB, hI⟩ := H
    exact oG.go (fun t hr => XS.ifYes X.here hx rfl rfl (hb hby hd) rfl (XT.i0_lt_t q) ho hp hr) k
  · have k := kf q
    obtain ⟨vm0, k0, locs, X, eT, N, hx, hby, hml, hZ, hown, hnm, hret, hlk, hn, hS, hk, hB, hI⟩ := H
    subst hp'
    exact oG.go (fun t hr => XS.ifNo X.here hx rfl (hb hby hd) rfl (XT.i0_lt_f q) hr) k
theorem o_ifl_lt (H : oH p l e R s m args below meth c bc ml y rt Z n0 T h cells slots b I) {o : Int} {x z : Int64} (hd : decode bc pc = .ok (.ifCond .lt o, 3)) (ho : 0 ≤ (pc : Int) + o) (hp : ((pc : Int) + o).toNat = pt) (hp' : pc + 3 = pc') (kt : x < z → oG p e below s n0 kc ks J Q (T.setTop (mkF m pt L S))) (kf : ¬ x < z → oG p e below s n0 kc ks J Q (T.setTop (mkF m pc' L S))) : oG p e below s n0 kc ks J Q (T.setTop (mkF m pc L (.int (XT.cmpL x z) :: S))) := by
  by_cases q : x < z
  · have k := kt q
    obtain ⟨vm0, k0, locs, X, eT, N, hx, hby, hml, hZ, hown, hnm, hret, hlk, hn, hS, hk, hB, hI⟩ := H
    exact oG.go (fun t hr => XS.ifYes X.here hx rfl rfl (hb hby hd) rfl (XT.ll_lt_t q) ho hp hr) k
  · have k := kf q
    obtain ⟨vm0, k0, locs, X, eT, N, hx, hby, hml, hZ, hown, hnm, hret, hlk, hn, hS, hk, hB, hI⟩ := H
    subst hp'
    exact oG.go (fun t hr => XS.ifNo X.here hx rfl (hb hby hd) rfl (XT.ll_lt_f q) hr) k
theorem o_icmp_ge (H : oH p l e R s m args below meth c bc ml y rt Z n0 T h cells slots b I) {o : Int} {x z : Int32} (hd : decode bc pc = .ok (.if_icmp .ge o, 3)) (ho : 0 ≤ (pc : Int) + o) (hp : ((pc : Int) + o).toNat = pt) (hp' : pc + 3 = pc') (kt : ¬ x < z → oG p e below s n0 kc ks J Q (T.setTop (mkF m pt L S))) (kf : x < z → oG p e below s n0 kc ks J Q (T.setTop (mkF m pc' L S))) : oG p e below s n0 kc ks J Q (T.setTop (mkF m pc L (.int z :: .int x :: S))) := by
  by_cases q : ¬ x < z
  · have k := kt q
    obtain ⟨vm0, k0, locs, X, eT, N, hx, hby, hml, hZ, hown, hnm, hret, hlk, hn, hS, hk, hB, hI⟩ := H
    exact oG.go (fun t hr => XS.icmpYes X.here hx rfl rfl (hb hby hd) rfl (XT.ii_ge_t q) ho hp hr) k
  · have k := kf (Classical.not_not.mp q)
    obtain ⟨vm0, k0, locs, X, eT, N, hx, hby, hml, hZ, hown, hnm, hret, hlk, hn, hS, hk, hB, hI⟩ := H
    subst hp'
    exact oG.go (fun t hr => XS.icmpNo X.here hx rfl (hb hby hd) rfl (XT.ii_ge_f (Classical.not_not.mp q)) hr) k
theorem o_if_ge (H : oH p l e R s m args below meth c bc ml y rt Z n0 T h cells slots b I) {o : Int} {x : Int32} (hd : decode bc pc = .ok (.ifCond .ge o, 3)) (ho : 0 ≤ (pc : Int) + o) (hp : ((pc : Int) + o).toNat = pt) (hp' : pc + 3 = pc') (kt : ¬ x < 0 → oG p e below s n0 kc ks J Q (T.setTop (mkF m pt L S))) (kf : x < 0 → oG p e below s n0 kc ks J Q (T.setTop (mkF m pc' L S))) : oG p e below s n0 kc ks J Q (T.setTop (mkF m pc L (.int x :: S))) := by
  by_cases q : ¬ x < 0
  · have k := kt q
    obtain ⟨vm0, k0, locs, X, eT, N, hx, hby, hml, hZ, hown, hnm, hret, hlk, hn, hS, hk, hB, hI⟩ := H
    exact oG.go (fun t hr => XS.ifYes X.here hx rfl rfl (hb hby hd) rfl (XT.i0_ge_t q) ho hp hr) k
  · have k := kf (Classical.not_not.mp q)
    obtain ⟨vm0, k0, locs, X, eT, N, hx, hby, hml, hZ, hown, hnm, hret, hlk, hn, hS, hk, hB, hI⟩ := H
    subst hp'
    exact oG.go (fun t hr => XS.ifNo X.here hx rfl (hb hby hd) rfl (XT.i0_ge_f (Classical.not_not.mp q)) hr) k
theorem o_ifl_ge (H : oH p l e R s m args below meth c bc ml y rt Z n0 T h cells slots b I) {o : Int} {x z : Int64} (hd : decode bc pc = .ok (.ifCond .ge o, 3)) (ho : 0 ≤ (pc : Int) + o) (hp : ((pc : Int) + o).toNat = pt) (hp' : pc + 3 = pc') (kt : ¬ x < z → oG p e below s n0 kc ks J Q (T.setTop (mkF m pt L S))) (kf : x < z → oG p e below s n0 kc ks J Q (T.setTop (mkF m pc' L S))) : oG p e below s n0 kc ks J Q (T.setTop (mkF m pc L (.int (XT.cmpL x z) :: S))) := by
  by_cases q : ¬ x < z
  · have k := kt q
    obtain ⟨vm0, k0, locs, X, eT, N, hx, hby, hml, hZ, hown, hnm, hret, hlk, hn, hS, hk, hB, hI⟩ := H
    exact oG.go (fun t hr => XS.ifYes X.here hx rfl rfl (hb hby hd) rfl (XT.ll_ge_t q) ho hp hr) k
  · have k := kf (Classical.not_not.mp q)
    obtain ⟨vm0, k0, locs, X, eT, N, hx, hby, hml, hZ, hown, hnm, hret, hlk, hn, hS, hk, hB, hI⟩ := H
    subst hp'
    exact oG.go (fun t hr => XS.ifNo X.here hx rfl (hb hby hd) rfl (XT.ll_ge_f (Classical.not_not.mp q)) hr) k
theorem o_icmp_gt (H : oH p l e R s m args below meth c bc ml y rt Z n0 T h cells slots b I) {o : Int} {x z : Int32} (hd : decode bc pc = .ok (.if_icmp .gt o, 3)) (ho : 0 ≤ (pc : Int) + o) (hp : ((pc : Int) + o).toNat = pt) (hp' : pc + 3 = pc') (kt : z < x → oG p e below s n0 kc ks J Q (T.setTop (mkF m pt L S))) (kf : ¬ z < x → oG p e below s n0 kc ks J Q (T.setTop (mkF m pc' L S))) : oG p e below s n0 kc ks J Q (T.setTop (mkF m pc L (.int z :: .int x :: S))) := by
  by_cases q : z < x
  · have k := kt q
    obtain ⟨vm0, k0, locs, X, eT, N, hx, hby, hml, hZ, hown, hnm, hret, hlk, hn, hS, hk, hB, hI⟩ := H
    exact oG.go (fun t hr => XS.icmpYes X.here hx rfl rfl (hb hby hd) rfl (XT.ii_gt_t q) ho hp hr) k
  · have k := kf q
    obtain ⟨vm0, k0, locs, X, eT, N, hx, hby, hml, hZ, hown, hnm, hret, hlk, hn, hS, hk, hB, hI⟩ := H
    subst hp'
    exact oG.go (fun t hr => XS.icmpNo X.here hx rfl (hb hby hd) rfl (XT.ii_gt_f q) hr) k
theorem o_if_gt (H : oH p l e R s m args below meth c bc ml y rt Z n0 T h cells slots b I) {o : Int} {x : Int32} (hd : decode bc pc = .ok (.ifCond .gt o, 3)) (ho : 0 ≤ (pc : Int) + o) (hp : ((pc : Int) + o).toNat = pt) (hp' : pc + 3 = pc') (kt : 0 < x → oG p e below s n0 kc ks J Q (T.setTop (mkF m pt L S))) (kf : ¬ 0 < x → oG p e below s n0 kc ks J Q (T.setTop (mkF m pc' L S))) : oG p e below s n0 kc ks J Q (T.setTop (mkF m pc L (.int x :: S))) := by
  by_cases q : 0 < x
  · have k := kt q
    obtain ⟨vm0, k0, locs, X, eT, N, hx, hby, hml, hZ, hown, hnm, hret, hlk, hn, hS, hk, hB, hI⟩ := H
    exact oG.go (fun t hr => XS.ifYes X.here hx rfl rfl (hb hby hd) rfl (XT.i0_gt_t q) ho hp hr) k
  · have k := kf q
    obtain ⟨vm0, k0, locs, X, eT, N, hx, hby, hml, hZ, hown, hnm, hret, hlk, hn, hS, hk, hB, hI⟩ := H
    subst hp'
    exact oG.go (fun t hr => XS.ifNo X.here hx rfl (hb hby hd) rfl (XT.i0_gt_f q) hr) k
theorem o_ifl_gt (H : oH p l e R s m args below meth c bc ml y rt Z n0 T h cells slots b I) {o : Int} {x z : Int64} (hd : decode bc pc = .ok (.ifCond .gt o, 3)) (ho : 0 ≤ (pc : Int) + o) (hp : ((pc : Int) + o).toNat = pt) (hp' : pc + 3 = pc') (kt : z < x → oG p e below s n0 kc ks J Q (T.setTop (mkF m pt L S))) (kf : ¬ z < x → oG p e below s n0 kc ks J Q (T.setTop (mkF m pc' L S))) : oG p e below s n0 kc ks J Q (T.setTop (mkF m pc L (.int (XT.cmpL x z) :: S))) := by
  by_cases q : z < x
  · have k := kt q
    obtain ⟨vm0, k0, locs, X, eT, N, hx, hby, hml, hZ, hown, hnm, hret, hlk, hn, hS, hk, hB, hI⟩ := H
    exact oG.go (fun t hr => XS.ifYes X.here hx rfl rfl (hb hby hd) rfl (XT.ll_gt_t q) ho hp hr) k
  · have k := kf q
    obtain ⟨vm0, k0, locs, X, eT, N, hx, hby, hml, hZ, hown, hnm, hret, hlk, hn, hS, hk, hB, hI⟩ := H
    subst hp'
    exact oG.go (fun t hr => XS.ifNo X.here hx rfl (hb hby hd) rfl (XT.ll_gt_f q) hr) k
theorem o_icmp_le (H : oH p l e R s m args below meth c bc ml y rt Z n0 T h cells slots b I) {o : Int} {x z : Int32} (hd : decode bc pc = .ok (.if_icmp .le o, 3)) (ho : 0 ≤ (pc : Int) + o) (hp : ((pc : Int) + o).toNat = pt) (hp' : pc + 3 = pc') (kt : ¬ z < x → oG p e below s n0 kc ks J Q (T.setTop (mkF m pt L S))) (kf : z < x → oG p e below s n0 kc ks J Q (T.setTop (mkF m pc' L S))) : oG p e below s n0 kc ks J Q (T.setTop (mkF m pc L (.int z :: .int x :: S))) := by
  by_cases q : ¬ z < x
  · have k := kt q
    obtain ⟨vm0, k0, locs, X, eT, N, hx, hby, hml, hZ, hown, hnm, hret, hlk, hn, hS, hk, hB, hI⟩ := H
    exact oG.go (fun t hr => XS.icmpYes X.here hx rfl rfl (hb hby hd) rfl (XT.ii_le_t q) ho hp hr) k
  · have k := kf (Classical.not_not.mp q)
    obtain ⟨vm0, k0, locs, X, eT, N, hx, hby, hml, hZ, hown, hnm, hret, hlk, hn, hS, hk, hB, hI⟩ := H
    subst hp'
    exact oG.go (fun t hr => XS.icmpNo X.here hx rfl (hb hby hd) rfl (XT.ii_le_f (Classical.not_not.mp q)) hr) k
theorem o_if_le (H : oH p l e R s m args below meth c bc ml y rt Z n0 T h cells slots b I) {o : Int} {x : Int32} (hd : decode bc pc = .ok (.ifCond .le o, 3)) (ho : 0 ≤ (pc : Int) + o) (hp : ((pc : Int) + o).toNat = pt) (hp' : pc + 3 = pc') (kt : ¬ 0 < x → oG p e below s n0 kc ks J Q (T.setTop (mkF m pt L S))) (kf : 0 < x → oG p e below s n0 kc ks J Q (T.setTop (mkF m pc' L S))) : oG p e below s n0 kc ks J Q (T.setTop (mkF m pc L (.int x :: S))) := by
  by_cases q : ¬ 0 < x
  · have k := kt q
    obtain ⟨vm0, k0, locs, X, eT, N, hx, hby, hml, hZ, hown, hnm, hret, hlk, hn, hS, hk, hB, hI⟩ := H
    exact oG.go (fun t hr => XS.ifYes X.here hx rfl rfl (hb hby hd) rfl (XT.i0_le_t q) ho hp hr) k
  · have k := kf (Classical.not_not.mp q)
    obtain ⟨vm0, k0, locs, X, eT, N, hx, hby, hml, hZ, hown, hnm, hret, hlk, hn, hS, hk, hB, hI⟩ := H
    subst hp'
    exact oG.go (fun t hr => XS.ifNo X.here hx rfl (hb hby hd) rfl (XT.i0_le_f (Classical.not_not.mp q)) hr) k
theorem o_ifl_le (H : oH p l e R s m args below meth c bc ml y rt Z n0 T h cells slots b I) {o : Int} {x z : Int64} (hd : decode bc pc = .ok (.ifCond .le o, 3)) (ho : 0 ≤ (pc : Int) + o) (hp : ((pc : Int) + o).toNat = pt) (hp' : pc + 3 = pc') (kt : ¬ z < x → oG p e below s n0 kc ks J Q (T.setTop (mkF m pt L S))) (kf : z < x → oG p e below s n0 kc ks J Q (T.setTop (mkF m pc' L S))) : oG p e below s n0 kc ks J Q (T.setTop (mkF m pc L (.int (XT.cmpL x z) :: S))) := by
  by_cases q : ¬ z < x
  · have k := kt q
    obtain ⟨vm0, k0, locs, X, eT, N, hx, hby, hml, hZ, hown, hnm, hret, hlk, hn, hS, hk, hB, hI⟩ := H
    exact oG.go (fun t hr => XS.ifYes X.here hx rfl rfl (hb hby hd) rfl (XT.ll_le_t q) ho hp hr) k
  · have k := kf (Classical.not_not.mp q)
    obtain ⟨vm0, k0, locs, X, eT, N, hx, hby, hml, hZ, hown, hnm, hret, hlk, hn, hS, hk, hB, hI⟩ := H
    subst hp'
    exact oG.go (fun t hr => XS.ifNo X.here hx rfl (hb hby hd) rfl (XT.ll_le_f (Classical.not_not.mp q)) hr) k
theorem o_icmp_t (H : oH p l e R s m args below meth c bc ml y rt Z n0 T h cells slots b I) {o : Int} {cd : ClassFile.Cond} {x z : Int32} (hd : decode bc pc = .ok (.if_icmp cd o, 3)) (hc : if_icmp.holds cd x z = true) (ho : 0 ≤ (pc : Int) + o) (hp : ((pc : Int) + o).toNat = pt) (k : oG p e below s n0 kc ks J Q (T.setTop (mkF m pt L S))) : oG p e below s n0 kc ks J Q (T.setTop (mkF m pc L (.int z :: .int x :: S))) := by
  obtain ⟨vm0, k0, locs, X, eT, N, hx, hby, hml, hZ, hown, hnm, hret, hlk, hn, hS, hk, hB, hI⟩ := H
  exact oG.go (fun t hr => XS.icmpYes X.here hx rfl rfl (hb hby hd) rfl hc ho hp hr) k
theorem o_icmp_f (H : oH p l e R s m args below meth c bc ml y rt Z n0 T h cells slots b I) {o : Int} {cd : ClassFile.Cond} {x z : Int32} (hd : decode bc pc = .ok (.if_icmp cd o, 3)) (hc : if_icmp.holds cd x z = false) (hp : pc + 3 = pc') (k : oG p e below s n0 kc ks J Q (T.setTop (mkF m pc' L S))) : oG p e below s n0 kc ks J Q (T.setTop (mkF m pc L (.int z :: .int x :: S))) := by
  obtain ⟨vm0, k0, locs, X, eT, N, hx, hby, hml, hZ, hown, hnm, hret, hlk, hn, hS, hk, hB, hI⟩ := H
  subst hp
  exact oG.go (fun t hr => XS.icmpNo X.here hx rfl (hb hby hd) rfl hc hr) k
theorem o_if_t (H : oH p l e R s m args below meth c bc ml y rt Z n0 T h cells slots b I) {o : Int} {cd : ClassFile.Cond} {x : Int32} (hd : decode bc pc = .ok (.ifCond cd o, 3)) (hc : ifCond.holds cd x = true) (ho : 0 ≤ (pc : Int) + o) (hp : ((pc : Int) + o).toNat = pt) (k : oG p e below s n0 kc ks J Q (T.setTop (mkF m pt L S))) : oG p e below s n0 kc ks J Q (T.setTop (mkF m pc L (.int x :: S))) := by
  obtain ⟨vm0, k0, locs, X, eT, N, hx, hby, hml, hZ, hown, hnm, hret, hlk, hn, hS, hk, hB, hI⟩ := H
  exact oG.go (fun t hr => XS.ifYes X.here hx rfl rfl (hb hby hd) rfl hc ho hp hr) k
theorem o_if_f (H : oH p l e R s m args below meth c bc ml y rt Z n0 T h cells slots b I) {o : Int} {cd : ClassFile.Cond} {x : Int32} (hd : decode bc pc = .ok (.ifCond cd o, 3)) (hc : ifCond.holds cd x = false) (hp : pc + 3 = pc') (k : oG p e below s n0 kc ks J Q (T.setTop (mkF m pc' L S))) : oG p e below s n0 kc ks J Q (T.setTop (mkF m pc L (.int x :: S))) := by
  obtain ⟨vm0, k0, locs, X, eT, N, hx, hby, hml, hZ, hown, hnm, hret, hlk, hn, hS, hk, hB, hI⟩ := H
  subst hp
  exact oG.go (fun t hr => XS.ifNo X.here hx rfl (hb hby hd) rfl hc hr) k
theorem o_ifnull_t (H : oH p l e R s m args below meth c bc ml y rt Z n0 T h cells slots b I) {o : Int} (hd : decode bc pc = .ok (.ifnull o, 3)) (ho : 0 ≤ (pc : Int) + o) (hp : ((pc : Int) + o).toNat = pt) (k : oG p e below s n0 kc ks J Q (T.setTop (mkF m pt L S))) : oG p e below s n0 kc ks J Q (T.setTop (mkF m pc L (.null :: S))) := by
  obtain ⟨vm0, k0, locs, X, eT, N, hx, hby, hml, hZ, hown, hnm, hret, hlk, hn, hS, hk, hB, hI⟩ := H
  exact oG.go (fun t hr => XS.ifnullYes X.here hx rfl rfl (hb hby hd) rfl ho hp hr) k
theorem o_ifnull_f (H : oH p l e R s m args below meth c bc ml y rt Z n0 T h cells slots b I) {o : Int} {a : Addr} (hd : decode bc pc = .ok (.ifnull o, 3)) (hp : pc + 3 = pc') (k : oG p e below s n0 kc ks J Q (T.setTop (mkF m pc' L S))) : oG p e below s n0 kc ks J Q (T.setTop (mkF m pc L (.ref a :: S))) := by
  obtain ⟨vm0, k0, locs, X, eT, N, hx, hby, hml, hZ, hown, hnm, hret, hlk, hn, hS, hk, hB, hI⟩ := H
  subst hp
  exact oG.go (fun t hr => XS.ifnullNo X.here hx rfl (hb hby hd) rfl hr) k
theorem o_ifnonnull_t (H : oH p l e R s m args below meth c bc ml y rt Z n0 T h cells slots b I) {o : Int} {a : Addr} (hd : decode bc pc = .ok (.ifnonnull o, 3)) (ho : 0 ≤ (pc : Int) + o) (hp : ((pc : Int) + o).toNat = pt) (k : oG p e below s n0 kc ks J Q (T.setTop (mkF m pt L S))) : oG p e below s n0 kc ks J Q (T.setTop (mkF m pc L (.ref a :: S))) := by
  obtain ⟨vm0, k0, locs, X, eT, N, hx, hby, hml, hZ, hown, hnm, hret, hlk, hn, hS, hk, hB, hI⟩ := H
  exact oG.go (fun t hr => XT.ifnonnullYes X.here hx rfl rfl (hb hby hd) rfl ho hp hr) k
theorem o_ifnonnull_f (H : oH p l e R s m args below meth c bc ml y rt Z n0 T h cells slots b I) {o : Int} (hd : decode bc pc = .ok (.ifnonnull o, 3)) (hp : pc + 3 = pc') (k : oG p e below s n0 kc ks J Q (T.setTop (mkF m pc' L S))) : oG p e below s n0 kc ks J Q (T.setTop (mkF m pc L (.null :: S))) := by
  obtain ⟨vm0, k0, locs, X, eT, N, hx, hby, hml, hZ, hown, hnm, hret, hlk, hn, hS, hk, hB, hI⟩ := H
  subst hp
  exact oG.go (fun t hr => XT.ifnonnullNo X.here hx rfl (hb hby hd) rfl hr) k
theorem o_acmp_t (H : oH p l e R s m args below meth c bc ml y rt Z n0 T h cells slots b I) {o : Int} {cd : ClassFile.ACond} {u w : Value} (hd : decode bc pc = .ok (.if_acmp cd o, 3)) (hu : u.isRef = true) (hw : w.isRef = true) (hc : XT.acmp cd u w = true) (ho : 0 ≤ (pc : Int) + o) (hp : ((pc : Int) + o).toNat = pt) (k : oG p e below s n0 kc ks J Q (T.setTop (mkF m pt L S))) : oG p e below s n0 kc ks J Q (T.setTop (mkF m pc L (w :: u :: S))) := by
  obtain ⟨vm0, k0, locs, X, eT, N, hx, hby, hml, hZ, hown, hnm, hret, hlk, hn, hS, hk, hB, hI⟩ := H
  exact oG.go (fun t hr => XT.acmpYes X.here hx rfl rfl (hb hby hd) rfl hu hw hc ho hp hr) k
theorem o_acmp_f (H : oH p l e R s m args below meth c bc ml y rt Z n0 T h cells slots b I) {o : Int} {cd : ClassFile.ACond} {u w : Value} (hd : decode bc pc = .ok (.if_acmp cd o, 3)) (hu : u.isRef = true) (hw : w.isRef = true) (hc : XT.acmp cd u w = false) (hp : pc + 3 = pc') (k : oG p e below s n0 kc ks J Q (T.setTop (mkF m pc' L S))) : oG p e below s n0 kc ks J Q (T.setTop (mkF m pc L (w :: u :: S))) := by
  obtain ⟨vm0, k0, locs, X, eT, N, hx, hby, hml, hZ, hown, hnm, hret, hlk, hn, hS, hk, hB, hI⟩ := H
  subst hp
  exact oG.go (fun t hr => XT.acmpNo X.here hx rfl (hb hby hd) rfl hu hw hc hr) k
theorem o_ldcI (H : oH p l e R s m args below meth c bc ml y rt Z n0 T h cells slots b I) {i : Nat} (v : Int32) (w : (Jvm.Cond.constant y.cls i v).before a0 Z = true) (hd : decode bc pc = .ok (.ldc i, 2)) (hp : pc + 2 = pc') (k : oG p e below s n0 kc ks J Q (T.setTop (mkF m pc' L (.int v :: S)))) : oG p e below s n0 kc ks J Q (T.setTop (mkF m pc L S)) := by
  obtain ⟨vm0, k0, locs, X, eT, N, hx, hby, hml, hZ, hown, hnm, hret, hlk, hn, hS, hk, hB, hI⟩ := H
  subst hp
  exact oG.go (X.ldcInt hx hown (mvT hZ w) (g := mkF m pc L S) rfl (hb hby hd)) k
theorem o_ldcJ (H : oH p l e R s m args below meth c bc ml y rt Z n0 T h cells slots b I) {i : Nat} (v : Int64) (w : (Jvm.Cond.constantLong y.cls i v).before a0 Z = true) (hd : decode bc pc = .ok (.ldc2_w i, 3)) (hp : pc + 3 = pc') (k : oG p e below s n0 kc ks J Q (T.setTop (mkF m pc' L (.long v :: S)))) : oG p e below s n0 kc ks J Q (T.setTop (mkF m pc L S)) := by
  obtain ⟨vm0, k0, locs, X, eT, N, hx, hby, hml, hZ, hown, hnm, hret, hlk, hn, hS, hk, hB, hI⟩ := H
  subst hp
  exact oG.go (X.ldc2Long hx hown (mvT hZ w) (g := mkF m pc L S) rfl (hb hby hd)) k
theorem o_ireturn (H : oH p l e R s m args below meth c bc ml y rt Z n0 T h cells slots b I) {z : Int32} (hrt : rt = some .int) (hd : decode bc pc = .ok (.ireturn, 1)) (hst : oSt I) (hIJ : ∀ vm, I vm → J h vm) (hkc : cells ≤ kc) (hks : slots ≤ ks) (q : Q (some (.int z)) h) : oG p e below s n0 kc ks J Q (T.setTop (mkF m pc L (.int z :: S))) := by
  obtain ⟨vm0, k0, locs, X, eT, N, hx, hby, hml, hZ, hown, hnm, hret, hlk, hn, hS, hk, hB, hI⟩ := H
  obtain ⟨fs, hr, hrun, hended, hE⟩ := X.leaveW hS (by rw [eT]; exact hk) (v := (some (.int z))) (fun hh => by first | rfl | (rw [hret, hrt] at hh; cases hh)) hlk
  refine ⟨_, _, retI X hx (hret.trans hrt) (hb hby hd) hr, hrun, hended, _, _, rfl, ⟨?_, N, (show J T.heap T.vm from eT.symm ▸ hIJ _ (hst _ _ X.warmed hI))⟩, hE.1, hE.2.1, hE.2.2.1, hE.2.2.2.mono hkc hks⟩
  show Q _ T.heap
  rw [eT]; exact q
theorem o_nreturn (H : oH p l e R s m args below meth c bc ml y rt Z n0 T h cells slots b I) {z : Int32} (t : FieldType) (hrt : rt = some t) (ht : t = .boolean ∨ t = .byte ∨ t = .char ∨ t = .short) (hd : decode bc pc = .ok (.ireturn, 1)) (hst : oSt I) (hIJ : ∀ vm, I vm → J h vm) (hkc : cells ≤ kc) (hks : slots ≤ ks) (q : Q (some (.int (nar t z))) h) : oG p e below s n0 kc ks J Q (T.setTop (mkF m pc L (.int z :: S))) := by
  obtain ⟨vm0, k0, locs, X, eT, N, hx, hby, hml, hZ, hown, hnm, hret, hlk, hn, hS, hk, hB, hI⟩ := H
  obtain ⟨fs, hr, hrun, hended, hE⟩ := X.leaveW hS (by rw [eT]; exact hk) (v := (some (.int (nar t z)))) (fun hh => by first | rfl | (rw [hret, hrt] at hh; cases hh)) hlk
  refine ⟨_, _, retN X hx (hret.trans hrt) ht (hb hby hd) hr, hrun, hended, _, _, rfl, ⟨?_, N, (show J T.heap T.vm from eT.symm ▸ hIJ _ (hst _ _ X.warmed hI))⟩, hE.1, hE.2.1, hE.2.2.1, hE.2.2.2.mono hkc hks⟩
  show Q _ T.heap
  rw [eT]; exact q
theorem o_lreturn (H : oH p l e R s m args below meth c bc ml y rt Z n0 T h cells slots b I) {z : Int64} (hrt : rt = some .long) (hd : decode bc pc = .ok (.lreturn, 1)) (hst : oSt I) (hIJ : ∀ vm, I vm → J h vm) (hkc : cells ≤ kc) (hks : slots ≤ ks) (q : Q (some (.long z)) h) : oG p e below s n0 kc ks J Q (T.setTop (mkF m pc L (.long z :: S))) := by
  obtain ⟨vm0, k0, locs, X, eT, N, hx, hby, hml, hZ, hown, hnm, hret, hlk, hn, hS, hk, hB, hI⟩ := H
  obtain ⟨fs, hr, hrun, hended, hE⟩ := X.leaveW hS (by rw [eT]; exact hk) (v := (some (.long z))) (fun hh => by first | rfl | (rw [hret, hrt] at hh; cases hh)) hlk
  refine ⟨_, _, retOut X hx (w := .long z) (i := .lreturn) (hret.trans hrt) rfl (Or.inr (Or.inl ⟨rfl, rfl, z, rfl⟩)) (hb hby hd) hr, hrun, hended, _, _, rfl, ⟨?_, N, (show J T.heap T.vm from eT.symm ▸ hIJ _ (hst _ _ X.warmed hI))⟩, hE.1, hE.2.1, hE.2.2.1, hE.2.2.2.mono hkc hks⟩
  show Q _ T.heap
  rw [eT]; exact q
theorem o_areturn (H : oH p l e R s m args below meth c bc ml y rt Z n0 T h cells slots b I) {v : Value} {t : FieldType} (hrt : rt = some t) (ht : t.isReference = true) (hv : v.isRef = true) (hna : narrow t v = v) (hd : decode bc pc = .ok (.areturn, 1)) (hst : oSt I) (hIJ : ∀ vm, I vm → J h vm) (hkc : cells ≤ kc) (hks : slots ≤ ks) (q : Q (some v) h) : oG p e below s n0 kc ks J Q (T.setTop (mkF m pc L (v :: S))) := by
  obtain ⟨vm0, k0, locs, X, eT, N, hx, hby, hml, hZ, hown, hnm, hret, hlk, hn, hS, hk, hB, hI⟩ := H
  obtain ⟨fs, hr, hrun, hended, hE⟩ := X.leaveW hS (by rw [eT]; exact hk) (v := (some v)) (fun hh => by first | rfl | (rw [hret, hrt] at hh; cases hh)) hlk
  refine ⟨_, _, retOut X hx (w := v) (i := .areturn) (hret.trans hrt) hna (Or.inr (Or.inr (Or.inr (Or.inr ⟨rfl, ht, hv⟩)))) (hb hby hd) hr, hrun, hended, _, _, rfl, ⟨?_, N, (show J T.heap T.vm from eT.symm ▸ hIJ _ (hst _ _ X.warmed hI))⟩, hE.1, hE.2.1, hE.2.2.1, hE.2.2.2.mono hkc hks⟩
  show Q _ T.heap
  rw [eT]; exact q
theorem o_return (H : oH p l e R s m args below meth c bc ml y rt Z n0 T h cells slots b I)  (hrt : rt = none) (hd : decode bc pc = .ok (.return_, 1)) (hst : oSt I) (hIJ : ∀ vm, I vm → J h vm) (hkc : cells ≤ kc) (hks : slots ≤ ks) (q : Q none h) : oG p e below s n0 kc ks J Q (T.setTop (mkF m pc L [])) := by
  obtain ⟨vm0, k0, locs, X, eT, N, hx, hby, hml, hZ, hown, hnm, hret, hlk, hn, hS, hk, hB, hI⟩ := H
  obtain ⟨fs, hr, hrun, hended, hE⟩ := X.leaveW hS (by rw [eT]; exact hk) (v := none) (fun hh => by first | rfl | (rw [hret, hrt] at hh; cases hh)) hlk
  refine ⟨_, _, X.returnOut hx (hret.trans hrt) (hb hby hd) hr, hrun, hended, _, _, rfl, ⟨?_, N, (show J T.heap T.vm from eT.symm ▸ hIJ _ (hst _ _ X.warmed hI))⟩, hE.1, hE.2.1, hE.2.2.1, hE.2.2.2.mono hkc hks⟩
  show Q _ T.heap
  rw [eT]; exact q
theorem o_new (H : oH p l e R s m args below meth c bc ml y rt Z n0 T h cells slots b I) {i nn : Nat} {C : String} (w : (Jvm.Cond.classLink y.cls i C).before a0 Z = true) (wi : (Jvm.Cond.instantiable C nn).before a0 Z = true) (wz : (Jvm.Cond.initialized C).before a0 Z = true) (hd : decode bc pc = .ok (.new i, 3)) (hp : pc + 3 = pc') (hc : cells + 1 ≤ R.cells) (hl : slots + nn ≤ R.slots)
    (k : ∀ (T' : State) (h' : Heap) (a : Addr), a = h.size → oH p l e R s m args below meth c bc ml y rt Z n0 T' h' (cells + 1) (slots + nn) b I → Ext h h' → Exa Z h' a C → (∀ {O nm d : String} {ty : FieldType}, Laid Z a0 C O nm d → parseFieldDescriptor d = some ty → Fld Z h' a O nm d (defaultValue ty)) → oG p e below s n0 kc ks J Q (T'.setTop (mkF m pc' L (.ref a :: S)))) : oG p e below s n0 kc ks J Q (T.setTop (mkF m pc L S)) := by
  obtain ⟨vm0, k0, locs, X, eT, N, hx, hby, hml, hZ, hown, hnm, hret, hlk, hn, hS, hk, hB, hI⟩ := H
  subst hp
  obtain ⟨T', h', X', e', E, A, D, -, st⟩ := newO X hx hZ hown w wi wz eT (g := mkF m pc L S) rfl (hb hby hd) hc hl
  exact oG.go st (k T' h' _ rfl ⟨vm0, k0, locs, X', e', N, hx, hby, hml, hZ, hown, hnm, hret, hlk, hn, hS, Nat.le_trans hk E.1, hB, hI⟩ E A (fun La ht => D La ht))
theorem o_initO (H : oH p l e R s m args below meth c bc ml y rt Z n0 T h cells slots b I) {i : Nat} {a : Addr} (w1 : (Jvm.Cond.methodLink y.cls i Lib.objectInit).before a0 Z = true) (w2 : (Jvm.Cond.instanceMethod Lib.objectInit).before a0 Z = true) (w3 : (Jvm.Cond.code Lib.objectInit ⟨#[0xb1]⟩ 1 none).before a0 Z = true) (hd : decode bc pc = .ok (.invokespecial i, 3)) (hp : pc + 3 = pc') (hsz : L.size = ml) (hf : 1 ≤ R.frames) (hlo : (S.map fun v => v.category).sum + 12 ≤ R.locals)
    (k : ∀ (T' : State), oH p l e R s m args below meth c bc ml y rt Z n0 T' h cells slots b I → oG p e below s n0 kc ks J Q (T'.setTop (mkF m pc' L S))) : oG p e below s n0 kc ks J Q (T.setTop (mkF m pc L (.ref a :: S))) := by
  obtain ⟨vm0, k0, locs, X, eT, N, hx, hby, hml, hZ, hown, hnm, hret, hlk, hn, hS, hk, hB, hI⟩ := H
  subst hp
  obtain ⟨T', X', e', st⟩ := initO X hx hZ hown w1 w2 w3 eT (g := mkF m pc L (.ref a :: S)) rfl (by rw [hml]; exact hsz) rfl (hb hby hd) hf (W := (S.map fun v => v.category).sum) (by show 2 * 0 + _ ≤ _; omega) hlo
  exact oG.go st (k T' ⟨vm0, k0, locs, X', e', N, hx, hby, hml, hZ, hown, hnm, hret, hlk, hn, hS, hk, hB, hI⟩)
theorem o_getF (H : oH p l e R s m args below meth c bc ml y rt Z n0 T h cells slots b I) {i : Nat} {a : Addr} {C f d host : String} {v : Value} (w : (Jvm.Cond.fieldLink y.cls i C f d).before a0 Z = true ∨ (Jvm.Cond.fieldLinkNest y.cls i C f d host).before a0 Z = true) (F : Fld Z h a C f d v) (hd : decode bc pc = .ok (.getfield i, 3)) (hp : pc + 3 = pc')
    (k : ∀ (T' : State), oH p l e R s m args below meth c bc ml y rt Z n0 T' h cells slots b I → oG p e below s n0 kc ks J Q (T'.setTop (mkF m pc' L (v :: S)))) : oG p e below s n0 kc ks J Q (T.setTop (mkF m pc L (.ref a :: S))) := by
  obtain ⟨vm0, k0, locs, X, eT, N, hx, hby, hml, hZ, hown, hnm, hret, hlk, hn, hS, hk, hB, hI⟩ := H
  subst hp
  obtain ⟨T', X', e', st⟩ := getF X hx hZ hown (host := host) w Via.refl eT F (g := mkF m pc L (.ref a :: S)) rfl rfl (hb hby hd)
  exact oG.go st (k T' ⟨vm0, k0, locs, X', e', N, hx, hby, hml, hZ, hown, hnm, hret, hlk, hn, hS, hk, hB, hI⟩)
theorem o_putF (H : oH p l e R s m args below meth c bc ml y rt Z n0 T h cells slots b I) {i kk : Nat} {a : Addr} {C K f d host : String} {v old : Value} {ty : FieldType} (w : (Jvm.Cond.fieldLink y.cls i C f d).before a0 Z = true ∨ (Jvm.Cond.fieldLinkNest y.cls i C f d host).before a0 Z = true) (F : Fld Z h a C f d old) (E : Exa Z h a K) (wl : (Jvm.Cond.lays K C f d).before a0 Z = true ∨ ((Jvm.Cond.laysFinal K C f d).before a0 Z = true ∧ y.cls = C ∧ y.name = "<init>")) (wi : (Jvm.Cond.instantiable K kk).before a0 Z = true) (hty : parseFieldDescriptor d = some ty) (hna : narrow ty v = v) (hft : fits ty v = true) (ha : n0 ≤ a) (hd : decode bc pc = .ok (.putfield i, 3)) (hp : pc + 3 = pc')
    (k : ∀ (T' : State) (h' : Heap), oH p l e R s m args below meth c bc ml y rt Z n0 T' h' cells slots false I → Wr h h' a (Jvm.RoadKit.slotOf Z C f d) v → oG p e below s n0 kc ks J Q (T'.setTop (mkF m pc' L S))) : oG p e below s n0 kc ks J Q (T.setTop (mkF m pc L (v :: .ref a :: S))) := by
  obtain ⟨vm0, k0, locs, X, eT, N, hx, hby, hml, hZ, hown, hnm, hret, hlk, hn, hS, hk, hB, hI⟩ := H
  subst hp
  obtain ⟨T', h', X', e', W, st⟩ := putF X hx hZ hown (host := host) w Via.refl eT F E (wl.imp id fun q => ⟨q.1, q.2.1, hnm.trans q.2.2⟩) wi hty hna hft (g := mkF m pc L (v :: .ref a :: S)) rfl rfl (hb hby hd)
  exact oG.go st (k T' h' ⟨vm0, k0, _, X', e', Fr.snoc X' N ha, hx, hby, hml, hZ, hown, hnm, hret, hlk, hn, hS, (by rw [W.size]; exact hk), (fun q => (nomatch q)), hI⟩ W)
theorem o_putFN (H : oH p l e R s m args below meth c bc ml y rt Z n0 T h cells slots b I) {i kk : Nat} {a : Addr} {C K f d : String} {v v' old : Value} {ty : FieldType} (w : (Jvm.Cond.fieldLink y.cls i C f d).before a0 Z = true) (F : Fld Z h a C f d old) (E : Exa Z h a K) (wl : (Jvm.Cond.lays K C f d).before a0 Z = true ∨ ((Jvm.Cond.laysFinal K C f d).before a0 Z = true ∧ y.cls = C ∧ y.name = "<init>")) (wi : (Jvm.Cond.instantiable K kk).before a0 Z = true) (hty : parseFieldDescriptor d = some ty) (hna : narrow ty v = v') (hft : fits ty v' = true) (ha : n0 ≤ a) (hd : decode bc pc = .ok (.putfield i, 3)) (hp : pc + 3 = pc')
    (k : ∀ (T' : State) (h' : Heap), oH p l e R s m args below meth c bc ml y rt Z n0 T' h' cells slots false I → Wr h h' a (Jvm.RoadKit.slotOf Z C f d) v' → oG p e below s n0 kc ks J Q (T'.setTop (mkF m pc' L S))) : oG p e below s n0 kc ks J Q (T.setTop (mkF m pc L (v :: .ref a :: S))) := by
  obtain ⟨vm0, k0, locs, X, eT, N, hx, hby, hml, hZ, hown, hnm, hret, hlk, hn, hS, hk, hB, hI⟩ := H
  subst hp
  obtain ⟨T', h', X', e', W, st⟩ := putFN X hx hZ hown w Via.refl eT F E (wl.imp id fun q => ⟨q.1, q.2.1, hnm.trans q.2.2⟩) wi hty hna hft (g := mkF m pc L (v :: .ref a :: S)) rfl rfl (hb hby hd)
  exact oG.go st (k T' h' ⟨vm0, k0, _, X', e', Fr.snoc X' N ha, hx, hby, hml, hZ, hown, hnm, hret, hlk, hn, hS, (by rw [W.size]; exact hk), (fun q => (nomatch q)), hI⟩ W)
theorem o_getS (H : oH p l e R s m args below meth c bc ml y rt Z n0 T h cells slots b I) {i : Nat} {C f d host : String} {v : Value} (w : (Jvm.Cond.fieldLink y.cls i C f d).before a0 Z = true ∨ (Jvm.Cond.fieldLinkNest y.cls i C f d host).before a0 Z = true) (F : Sta Z h C f d v) (hd : decode bc pc = .ok (.getstatic i, 3)) (hp : pc + 3 = pc')
    (k : ∀ (T' : State), oH p l e R s m args below meth c bc ml y rt Z n0 T' h cells slots b I → oG p e below s n0 kc ks J Q (T'.setTop (mkF m pc' L (v :: S)))) : oG p e below s n0 kc ks J Q (T.setTop (mkF m pc L S)) := by
  obtain ⟨vm0, k0, locs, X, eT, N, hx, hby, hml, hZ, hown, hnm, hret, hlk, hn, hS, hk, hB, hI⟩ := H
  subst hp
  obtain ⟨T', X', e', st⟩ := getS2 X hx hZ hown (host := host) w Via.refl eT F (g := mkF m pc L S) rfl (hb hby hd)
  exact oG.go st (k T' ⟨vm0, k0, locs, X', e', N, hx, hby, hml, hZ, hown, hnm, hret, hlk, hn, hS, hk, hB, hI⟩)
theorem o_instY (H : oH p l e R s m args below meth c bc ml y rt Z n0 T h cells slots b I) {i : Nat} {a : Addr} {K : String} (w : (Jvm.Cond.classLink y.cls i K).before a0 Z = true) (Ii : Ins Z h a K true) (hd : decode bc pc = .ok (.instanceof i, 3)) (hp : pc + 3 = pc') (k : ∀ (T' : State), oH p l e R s m args below meth c bc ml y rt Z n0 T' h cells slots b I → oG p e below s n0 kc ks J Q (T'.setTop (mkF m pc' L (.int 1 :: S)))) : oG p e below s n0 kc ks J Q (T.setTop (mkF m pc L (.ref a :: S))) := by
  obtain ⟨vm0, k0, locs, X, eT, N, hx, hby, hml, hZ, hown, hnm, hret, hlk, hn, hS, hk, hB, hI⟩ := H
  subst hp
  obtain ⟨T', X', e', st⟩ := instY X hx hZ hown w eT Ii (g := mkF m pc L (.ref a :: S)) rfl rfl (hb hby hd)
  exact oG.go st (k T' ⟨vm0, k0, locs, X', e', N, hx, hby, hml, hZ, hown, hnm, hret, hlk, hn, hS, hk, hB, hI⟩)
theorem o_castY (H : oH p l e R s m args below meth c bc ml y rt Z n0 T h cells slots b I) {i : Nat} {a : Addr} {K : String} (w : (Jvm.Cond.classLink y.cls i K).before a0 Z = true) (Ii : Ins Z h a K true) (hd : decode bc pc = .ok (.checkcast i, 3)) (hp : pc + 3 = pc') (k : ∀ (T' : State), oH p l e R s m args below meth c bc ml y rt Z n0 T' h cells slots b I → oG p e below s n0 kc ks J Q (T'.setTop (mkF m pc' L (.ref a :: S)))) : oG p e below s n0 kc ks J Q (T.setTop (mkF m pc L (.ref a :: S))) := by
  obtain ⟨vm0, k0, locs, X, eT, N, hx, hby, hml, hZ, hown, hnm, hret, hlk, hn, hS, hk, hB, hI⟩ := H
  subst hp
  obtain ⟨T', X', e', st⟩ := castY X hx hZ hown w eT Ii (g := mkF m pc L (.ref a :: S)) rfl rfl (hb hby hd)
  exact oG.go st (k T' ⟨vm0, k0, locs, X', e', N, hx, hby, hml, hZ, hown, hnm, hret, hlk, hn, hS, hk, hB, hI⟩)
theorem o_instNo (H : oH p l e R s m args below meth c bc ml y rt Z n0 T h cells slots b I) {i : Nat} {a : Addr} {C K : String} (w : (Jvm.Cond.classLink y.cls i K).before a0 Z = true) (E : Exa Z h a C) (F : ∃ c t, Z.vm.findClass C = some c ∧ Z.vm.findClass K = some t ∧ Z.vm.assignable c t = false) (hd : decode bc pc = .ok (.instanceof i, 3)) (hp : pc + 3 = pc') (k : ∀ (T' : State), oH p l e R s m args below meth c bc ml y rt Z n0 T' h cells slots b I → oG p e below s n0 kc ks J Q (T'.setTop (mkF m pc' L (.int 0 :: S)))) : oG p e below s n0 kc ks J Q (T.setTop (mkF m pc L (.ref a :: S))) := by
  obtain ⟨vm0, k0, locs, X, eT, N, hx, hby, hml, hZ, hown, hnm, hret, hlk, hn, hS, hk, hB, hI⟩ := H
  subst hp
  obtain ⟨T', X', e', st⟩ := instNo X hx hZ hown w eT E F (g := mkF m pc L (.ref a :: S)) rfl rfl (hb hby hd)
  exact oG.go st (k T' ⟨vm0, k0, locs, X', e', N, hx, hby, hml, hZ, hown, hnm, hret, hlk, hn, hS, hk, hB, hI⟩)
theorem o_instNull (H : oH p l e R s m args below meth c bc ml y rt Z n0 T h cells slots b I) {i : Nat} (hd : decode bc pc = .ok (.instanceof i, 3)) (hp : pc + 3 = pc') (k : oG p e below s n0 kc ks J Q (T.setTop (mkF m pc' L (.int 0 :: S)))) : oG p e below s n0 kc ks J Q (T.setTop (mkF m pc L (.null :: S))) := by
  obtain ⟨vm0, k0, locs, X, eT, N, hx, hby, hml, hZ, hown, hnm, hret, hlk, hn, hS, hk, hB, hI⟩ := H
  subst hp
  exact oG.go (X.instanceofNull hx (g := mkF m pc L (.null :: S)) rfl rfl (hb hby hd)) k
theorem o_aaloadC (H : oH p l e R s m args below meth c bc ml y rt Z n0 T h cells slots b I) {a : Addr} {j : Int32} {cl : Cell} {ty : FieldType} (v : Value) (A : Arr Z h a cl ty) (hty : ty.isReference = true) (hin : ¬ (j < 0 ∨ cl.slots.size ≤ j.toNatClampNeg)) (hv : cl.slots[j.toNatClampNeg]? = some v) (hd : decode bc pc = .ok (.aaload, 1)) (hp : pc + 1 = pc') (k : oG p e below s n0 kc ks J Q (T.setTop (mkF m pc' L (v :: S)))) : oG p e below s n0 kc ks J Q (T.setTop (mkF m pc L (.int j :: .ref a :: S))) := by
  obtain ⟨vm0, k0, locs, X, eT, N, hx, hby, hml, hZ, hown, hnm, hret, hlk, hn, hS, hk, hB, hI⟩ := H
  subst hp
  exact oG.go (fun t hr => X.aaload hx (j := j) (v := v) (by rw [eT]; exact A.1) (State.isArrayOf_alike hZ.alike A.2.1) hty A.2.2 hin hv (g := mkF m pc L (.int j :: .ref a :: S)) rfl rfl (hb hby hd) t hr) k
theorem o_kext {h' : Heap} (K : Keep h h' []) : Ext h h' := ⟨K.1, fun a c q => K.2.1 a c q nin0⟩
theorem o_etrans {h' h'' : Heap} (E : Ext h h') (E' : Ext h' h'') : Ext h h'' := ⟨Nat.le_trans E.1 E'.1, fun a c q => E'.2 a c (E.2 a c q)⟩
/-- C's chain of superclasses, ended by O, meets no class that can be made of the name K -/
theorem o_noSub {C K : String} {n : Nat} (wk : (Jvm.Cond.instantiable K n).before a0 Z = true) (kd : ∃ c k, Z.vm.findClass C = some c ∧ Z.vm.classes[c]? = some k ∧ k.kind = .ordinary) (hn : C ≠ K) (nf : ∀ c t, Z.vm.findClass C = some c → Z.vm.findClass K = some t → ∀ fuel, Z.vm.isSubclassAux fuel c t = false) : ∃ c t, Z.vm.findClass C = some c ∧ Z.vm.findClass K = some t ∧ Z.vm.assignable c t = false := by
  obtain ⟨c, k, h1, h2, h3⟩ := kd
  obtain ⟨t, kt, g1, g2, g3, g4, -⟩ := Cond.instantiable_spec wk
  have ne := ids_ne h1 g1 hn
  have g5 : kt.isInterface = false := (Bool.or_eq_false_iff.mp g4).1
  refine ⟨c, t, h1, g1, ?_⟩
  show Z.vm.assignableAux (255 + 1) c t = false
  simp [Vm.assignableAux, ne, h2, g2, h3, g3, g5, Vm.isSubclass, nf c t h1 g1]
theorem o_subRoot {O K : String} {n : Nat} (w : (Jvm.Cond.noSuperclass O).before a0 Z = true) (wk : (Jvm.Cond.instantiable K n).before a0 Z = true) (hn : O ≠ K) : NS Z O K := by
  obtain ⟨c, k, h1, h2, h3, -, -⟩ := Cond.noSuperclass_spec w
  obtain ⟨t, kt, g1, g2, g3, g4, -⟩ := Cond.instantiable_spec wk
  have ne := ids_ne h1 g1 hn
  refine ⟨c, t, h1, g1, fun fuel => ?_⟩
  cases fuel with
  | zero => rfl
  | succ f => simp [Vm.isSubclassAux, ne, h2, h3]
theorem o_ns {C S' K : String} {n : Nat} (w : (Jvm.Cond.superclass C S').before a0 Z = true) (wk : (Jvm.Cond.instantiable K n).before a0 Z = true) (N : NS Z C K) (hn : C ≠ K) : ∃ c t, Z.vm.findClass C = some c ∧ Z.vm.findClass K = some t ∧ Z.vm.assignable c t = false := by
  obtain ⟨c, h0⟩ := found_sup w
  obtain ⟨p, k, kp, h1, h2, h3, h4, h5, -, h7⟩ := Cond.superclass_spec h0 w
  refine o_noSub wk ⟨c, k, h0, h2, h5⟩ hn fun c' t' q1 q2 => ?_
  obtain ⟨c1, t1, r1, r2, r3⟩ := N
  cases r1.symm.trans q1
  cases r2.symm.trans q2
  exact r3
/-- an array, by the list of what it holds -/
def oA (ty : FieldType) (Z : State) (h : Heap) (a : Addr) (vs : List Value) : Prop := vs.length < 2 ^ 31 ∧ ∃ cl : Cell, Arr Z h a cl ty ∧ cl.slots = vs.toArray
theorem oA.ext {ty : FieldType} {h' : Heap} {a : Addr} {vs : List Value} (A : oA ty Z h a vs) (E : Ext h h') : oA ty Z h' a vs := by
  obtain ⟨q, cl, A, r⟩ := A; exact ⟨q, cl, A.ext E, r⟩
theorem oA.other {ty : FieldType} {h' : Heap} {a b : Addr} {sl : Nat} {v : Value} {vs : List Value} (A : oA ty Z h b vs) (W : Wr h h' a sl v) (ne : b ≠ a) : oA ty Z h' b vs := by
  obtain ⟨q, cl, A, r⟩ := A; exact ⟨q, cl, A.other W ne, r⟩
theorem oA.keep {ty : FieldType} {h' : Heap} {a : Addr} {ws : List Addr} {vs : List Value} (A : oA ty Z h a vs) (K : Keep h h' ws) (ne : a ∉ ws) : oA ty Z h' a vs := by
  obtain ⟨q, cl, A, r⟩ := A; exact ⟨q, cl, ⟨K.2.1 a cl A.1 ne, A.2⟩, r⟩
theorem oA.lt {ty : FieldType} {a : Addr} {vs : List Value} (A : oA ty Z h a vs) : a < h.size := by
  obtain ⟨q, cl, A, r⟩ := A; exact A.lt
theorem oA.same {ty : FieldType} {h' : Heap} {a : Addr} {j : Nat} {v : Value} {vs : List Value} (A : oA ty Z h a vs) (W : Wr h h' a j v) : oA ty Z h' a (vs.set j v) := by
  obtain ⟨q, cl, A, r⟩ := A
  refine ⟨by rw [List.length_set]; exact q, _, A.same W, ?_⟩
  show cl.slots.setIfInBounds j v = _
  rw [r, List.setIfInBounds_toArray]
theorem o_inb {cl : Cell} {vs : List Value} {j : Int32} {i : Nat} (r : cl.slots = vs.toArray) (h0 : j.toInt = (i : Int)) (h1 : i < vs.length) : ¬ (j < 0 ∨ cl.slots.size ≤ j.toNatClampNeg) := by
  have e0 : (0 : Int32).toInt = 0 := rfl
  have e1 : cl.slots.size = vs.length := by rw [r]; simp
  rw [Int32.lt_iff_toInt_lt, e0, e1]
  simp only [Int32.toNatClampNeg]; omega
theorem o_nat {j : Int32} {i : Nat} (h0 : j.toInt = (i : Int)) : j.toNatClampNeg = i := by
  simp only [Int32.toNatClampNeg]; omega
theorem o_elt {cl : Cell} {vs : List Value} {j : Int32} {i : Nat} {v : Value} (r : cl.slots = vs.toArray) (h0 : j.toInt = (i : Int)) (hv : vs[i]? = some v) : cl.slots[j.toNatClampNeg]? = some v := by
  rw [r, o_nat h0]; simpa using hv
theorem o_lt_of {vs : List Value} {i : Nat} {v : Value} (hv : vs[i]? = some v) : i < vs.length := (List.getElem?_eq_some_iff.mp hv).1
theorem o_newarr (H : oH p l e R s m args below meth c bc ml y rt Z n0 T h cells slots b I) {aty : ArrayType} {z : Int32} (cap n : Nat) (w : (Jvm.Cond.arrayClass (newarray.typeOf aty)).before a0 Z = true) (hz : z.toInt = (n : Int)) (hcap : n ≤ cap) (hb8 : cap * 8 ≤ 536870912) (hd : decode bc pc = .ok (.newarray aty, 2)) (hp : pc + 2 = pc') (hc : cells + 1 ≤ R.cells) (hl : slots + cap ≤ R.slots)
    (k : ∀ (T' : State) (h' : Heap) (a : Addr), a = h.size → oH p l e R s m args below meth c bc ml y rt Z n0 T' h' (cells + 1) (slots + cap) b I → Ext h h' → oA (newarray.typeOf aty) Z h' a (List.replicate n (defaultValue (newarray.typeOf aty))) → oG p e below s n0 kc ks J Q (T'.setTop (mkF m pc' L (.ref a :: S)))) : oG p e below s n0 kc ks J Q (T.setTop (mkF m pc L (.int z :: S))) := by
  obtain ⟨vm0, k0, locs, X, eT, N, hx, hby, hml, hZ, hown, hnm, hret, hlk, hn, hS, hk, hB, hI⟩ := H
  subst hp
  have e0 : (0 : Int32).toInt = 0 := rfl
  obtain ⟨T', h', kk, X', e', E, A, st⟩ := newP X hx hZ w eT (g := mkF m pc L (.int z :: S)) rfl (hb hby hd) rfl (by rw [Int32.lt_iff_toInt_lt, e0]; omega) (cap := cap) (by simp only [Int32.toNatClampNeg]; omega) hb8 hc hl
  refine oG.go st (k T' h' _ rfl ⟨vm0, k0, locs, X', e', N, hx, hby, hml, hZ, hown, hnm, hret, hlk, hn, hS, Nat.le_trans hk E.1, hB, hI⟩ E ⟨?_, _, A, ?_⟩)
  · have := Int32.toInt_lt z
    rw [List.length_replicate]; omega
  · show Array.replicate z.toNatClampNeg _ = _
    rw [o_nat hz, ← List.toArray_replicate]
theorem o_iaload (H : oH p l e R s m args below meth c bc ml y rt Z n0 T h cells slots b I) {a : Addr} {j : Int32} {vs : List Value} (i : Nat) (v : Value) (A : oA .int Z h a vs) (h0 : j.toInt = (i : Int)) (hv : vs[i]? = some v) (hd : decode bc pc = .ok (.iaload, 1)) (hp : pc + 1 = pc') (k : oG p e below s n0 kc ks J Q (T.setTop (mkF m pc' L (v :: S)))) : oG p e below s n0 kc ks J Q (T.setTop (mkF m pc L (.int j :: .ref a :: S))) := by
  obtain ⟨vm0, k0, locs, X, eT, N, hx, hby, hml, hZ, hown, hnm, hret, hlk, hn, hS, hk, hB, hI⟩ := H
  subst hp
  obtain ⟨-, cl, A, r⟩ := A
  exact oG.go (fun t hr => X.iaload hx (j := j) (v := v) (by rw [eT]; exact A.1) (State.isArrayOf_alike hZ.alike A.2.1) A.2.2 (o_inb r h0 (o_lt_of hv)) (o_elt r h0 hv) (g := mkF m pc L (.int j :: .ref a :: S)) rfl rfl (hb hby hd) t hr) k
theorem o_caload (H : oH p l e R s m args below meth c bc ml y rt Z n0 T h cells slots b I) {a : Addr} {j : Int32} {vs : List Value} (i : Nat) (v : Value) (A : oA .char Z h a vs) (h0 : j.toInt = (i : Int)) (hv : vs[i]? = some v) (hd : decode bc pc = .ok (.caload, 1)) (hp : pc + 1 = pc') (k : oG p e below s n0 kc ks J Q (T.setTop (mkF m pc' L (v :: S)))) : oG p e below s n0 kc ks J Q (T.setTop (mkF m pc L (.int j :: .ref a :: S))) := by
  obtain ⟨vm0, k0, locs, X, eT, N, hx, hby, hml, hZ, hown, hnm, hret, hlk, hn, hS, hk, hB, hI⟩ := H
  subst hp
  obtain ⟨-, cl, A, r⟩ := A
  exact oG.go (fun t hr => X.caload hx (j := j) (v := v) (by rw [eT]; exact A.1) (State.isArrayOf_alike hZ.alike A.2.1) A.2.2 (o_inb r h0 (o_lt_of hv)) (o_elt r h0 hv) (g := mkF m pc L (.int j :: .ref a :: S)) rfl rfl (hb hby hd) t hr) k
theorem o_baload (H : oH p l e R s m args below meth c bc ml y rt Z n0 T h cells slots b I) {a : Addr} {j : Int32} {vs : List Value} (i : Nat) (v : Value) (A : oA .byte Z h a vs) (h0 : j.toInt = (i : Int)) (hv : vs[i]? = some v) (hd : decode bc pc = .ok (.baload, 1)) (hp : pc + 1 = pc') (k : oG p e below s n0 kc ks J Q (T.setTop (mkF m pc' L (v :: S)))) : oG p e below s n0 kc ks J Q (T.setTop (mkF m pc L (.int j :: .ref a :: S))) := by
  obtain ⟨vm0, k0, locs, X, eT, N, hx, hby, hml, hZ, hown, hnm, hret, hlk, hn, hS, hk, hB, hI⟩ := H
  subst hp
  obtain ⟨-, cl, A, r⟩ := A
  exact oG.go (fun t hr => X.baloadBytes hx (j := j) (v := v) (by rw [eT]; exact A.1) (State.isArrayOf_alike hZ.alike A.2.1) A.2.2 (o_inb r h0 (o_lt_of hv)) (o_elt r h0 hv) (g := mkF m pc L (.int j :: .ref a :: S)) rfl rfl (hb hby hd) t hr) k
theorem o_laload (H : oH p l e R s m args below meth c bc ml y rt Z n0 T h cells slots b I) {a : Addr} {j : Int32} {vs : List Value} (i : Nat) (v : Value) (A : oA .long Z h a vs) (h0 : j.toInt = (i : Int)) (hv : vs[i]? = some v) (hd : decode bc pc = .ok (.laload, 1)) (hp : pc + 1 = pc') (k : oG p e below s n0 kc ks J Q (T.setTop (mkF m pc' L (v :: S)))) : oG p e below s n0 kc ks J Q (T.setTop (mkF m pc L (.int j :: .ref a :: S))) := by
  obtain ⟨vm0, k0, locs, X, eT, N, hx, hby, hml, hZ, hown, hnm, hret, hlk, hn, hS, hk, hB, hI⟩ := H
  subst hp
  obtain ⟨-, cl, A, r⟩ := A
  exact oG.go (fun t hr => X.laload hx (j := j) (v := v) (by rw [eT]; exact A.1) (State.isArrayOf_alike hZ.alike A.2.1) A.2.2 (o_inb r h0 (o_lt_of hv)) (o_elt r h0 hv) (g := mkF m pc L (.int j :: .ref a :: S)) rfl rfl (hb hby hd) t hr) k
theorem o_arraylength (H : oH p l e R s m args below meth c bc ml y rt Z n0 T h cells slots b I) {a : Addr} {ty : FieldType} {vs : List Value} (z : Int32) (A : oA ty Z h a vs) (hz : vs.length.toInt32 = z) (hd : decode bc pc = .ok (.arraylength, 1)) (hp : pc + 1 = pc') (k : oG p e below s n0 kc ks J Q (T.setTop (mkF m pc' L (.int z :: S)))) : oG p e below s n0 kc ks J Q (T.setTop (mkF m pc L (.ref a :: S))) := by
  obtain ⟨vm0, k0, locs, X, eT, N, hx, hby, hml, hZ, hown, hnm, hret, hlk, hn, hS, hk, hB, hI⟩ := H
  subst hp
  obtain ⟨-, cl, A, r⟩ := A
  have e1 : cl.slots.size.toInt32 = z := by rw [← hz, r]; simp
  exact oG.go (fun t hr => X.arraylength hx (by rw [eT]; exact A.1) (State.isArrayOf_alike hZ.alike A.2.1) (g := mkF m pc L (.ref a :: S)) rfl rfl (hb hby hd) t (by rw [e1]; exact hr)) k
theorem o_iastore (H : oH p l e R s m args below meth c bc ml y rt Z n0 T h cells slots b I) {a : Addr} {j : Int32} {z : Int32} {vs : List Value} (i : Nat) (A : oA .int Z h a vs) (h0 : j.toInt = (i : Int)) (h1 : i < vs.length) (ha : n0 ≤ a) (hd : decode bc pc = .ok (.iastore, 1)) (hp : pc + 1 = pc')
    (k : ∀ (T' : State) (h' : Heap), oH p l e R s m args below meth c bc ml y rt Z n0 T' h' cells slots false I → Wr h h' a i (.int z) → oA .int Z h' a (vs.set i (.int z)) → oG p e below s n0 kc ks J Q (T'.setTop (mkF m pc' L S))) : oG p e below s n0 kc ks J Q (T.setTop (mkF m pc L (.int z :: .int j :: .ref a :: S))) := by
  obtain ⟨vm0, k0, locs, X, eT, N, hx, hby, hml, hZ, hown, hnm, hret, hlk, hn, hS, hk, hB, hI⟩ := H
  subst hp
  have A' := A
  obtain ⟨-, cl, A, r⟩ := A
  obtain ⟨T', h', X', e', W, st⟩ := stI X hx hZ eT A (j := j) (o_inb r h0 h1) (g := mkF m pc L (.int z :: .int j :: .ref a :: S)) rfl rfl (hb hby hd)
  have en := o_nat h0
  have W2 : Wr h h' a i _ := en ▸ W
  exact oG.go st (k T' h' ⟨vm0, k0, _, X', e', Fr.snoc X' N ha, hx, hby, hml, hZ, hown, hnm, hret, hlk, hn, hS, (by rw [W2.size]; exact hk), (fun q => (nomatch q)), hI⟩ W2 (A'.same W2))
theorem o_castore (H : oH p l e R s m args below meth c bc ml y rt Z n0 T h cells slots b I) {a : Addr} {j : Int32} {z : Int32} {vs : List Value} (i : Nat) (A : oA .char Z h a vs) (h0 : j.toInt = (i : Int)) (h1 : i < vs.length) (ha : n0 ≤ a) (hd : decode bc pc = .ok (.castore, 1)) (hp : pc + 1 = pc')
    (k : ∀ (T' : State) (h' : Heap), oH p l e R s m args below meth c bc ml y rt Z n0 T' h' cells slots false I → Wr h h' a i (.int (nar .char z)) → oA .char Z h' a (vs.set i (.int (nar .char z))) → oG p e below s n0 kc ks J Q (T'.setTop (mkF m pc' L S))) : oG p e below s n0 kc ks J Q (T.setTop (mkF m pc L (.int z :: .int j :: .ref a :: S))) := by
  obtain ⟨vm0, k0, locs, X, eT, N, hx, hby, hml, hZ, hown, hnm, hret, hlk, hn, hS, hk, hB, hI⟩ := H
  subst hp
  have A' := A
  obtain ⟨-, cl, A, r⟩ := A
  obtain ⟨T', h', X', e', W, st⟩ := stC X hx hZ eT A (j := j) (o_inb r h0 h1) (g := mkF m pc L (.int z :: .int j :: .ref a :: S)) rfl rfl (hb hby hd)
  have en := o_nat h0
  have W2 : Wr h h' a i _ := en ▸ W
  exact oG.go st (k T' h' ⟨vm0, k0, _, X', e', Fr.snoc X' N ha, hx, hby, hml, hZ, hown, hnm, hret, hlk, hn, hS, (by rw [W2.size]; exact hk), (fun q => (nomatch q)), hI⟩ W2 (A'.same W2))
theorem o_bastore (H : oH p l e R s m args below meth c bc ml y rt Z n0 T h cells slots b I) {a : Addr} {j : Int32} {z : Int32} {vs : List Value} (i : Nat) (A : oA .byte Z h a vs) (h0 : j.toInt = (i : Int)) (h1 : i < vs.length) (ha : n0 ≤ a) (hd : decode bc pc = .ok (.bastore, 1)) (hp : pc + 1 = pc')
    (k : ∀ (T' : State) (h' : Heap), oH p l e R s m args below meth c bc ml y rt Z n0 T' h' cells slots false I → Wr h h' a i (.int (nar .byte z)) → oA .byte Z h' a (vs.set i (.int (nar .byte z))) → oG p e below s n0 kc ks J Q (T'.setTop (mkF m pc' L S))) : oG p e below s n0 kc ks J Q (T.setTop (mkF m pc L (.int z :: .int j :: .ref a :: S))) := by
  obtain ⟨vm0, k0, locs, X, eT, N, hx, hby, hml, hZ, hown, hnm, hret, hlk, hn, hS, hk, hB, hI⟩ := H
  subst hp
  have A' := A
  obtain ⟨-, cl, A, r⟩ := A
  obtain ⟨T', h', X', e', W, st⟩ := stB X hx hZ eT A (j := j) (o_inb r h0 h1) (g := mkF m pc L (.int z :: .int j :: .ref a :: S)) rfl rfl (hb hby hd)
  have en := o_nat h0
  have W2 : Wr h h' a i _ := en ▸ W
  exact oG.go st (k T' h' ⟨vm0, k0, _, X', e', Fr.snoc X' N ha, hx, hby, hml, hZ, hown, hnm, hret, hlk, hn, hS, (by rw [W2.size]; exact hk), (fun q => (nomatch q)), hI⟩ W2 (A'.same W2))
theorem o_lastore (H : oH p l e R s m args below meth c bc ml y rt Z n0 T h cells slots b I) {a : Addr} {j : Int32} {z : Int64} {vs : List Value} (i : Nat) (A : oA .long Z h a vs) (h0 : j.toInt = (i : Int)) (h1 : i < vs.length) (ha : n0 ≤ a) (hd : decode bc pc = .ok (.lastore, 1)) (hp : pc + 1 = pc')
    (k : ∀ (T' : State) (h' : Heap), oH p l e R s m args below meth c bc ml y rt Z n0 T' h' cells slots false I → Wr h h' a i (.long z) → oA .long Z h' a (vs.set i (.long z)) → oG p e below s n0 kc ks J Q (T'.setTop (mkF m pc' L S))) : oG p e below s n0 kc ks J Q (T.setTop (mkF m pc L (.long z :: .int j :: .ref a :: S))) := by
  obtain ⟨vm0, k0, locs, X, eT, N, hx, hby, hml, hZ, hown, hnm, hret, hlk, hn, hS, hk, hB, hI⟩ := H
  subst hp
  have A' := A
  obtain ⟨-, cl, A, r⟩ := A
  obtain ⟨T', h', X', e', W, st⟩ := stJ X hx hZ eT A (j := j) (o_inb r h0 h1) (g := mkF m pc L (.long z :: .int j :: .ref a :: S)) rfl rfl (hb hby hd)
  have en := o_nat h0
  have W2 : Wr h h' a i _ := en ▸ W
  exact oG.go st (k T' h' ⟨vm0, k0, _, X', e', Fr.snoc X' N ha, hx, hby, hml, hZ, hown, hnm, hret, hlk, hn, hS, (by rw [W2.size]; exact hk), (fun q => (nomatch q)), hI⟩ W2 (A'.same W2))
theorem o_static (H : oH p l e R s m args below meth c bc ml y rt Z n0 T h cells slots b I) {yc : MethodName} {bcc : ByteArray} {maxL i : Nat} {rtc : Option FieldType} {rm : Room} {Q' : Option Value → Heap → Prop} {St : List Value} (argsL : List Value) (S : List Value)
    {Ic : Vm → Prop} {Jc : Heap → Vm → Prop} (con : oC l Z n0 Ic Jc yc bcc maxL rtc rm rm.cells rm.slots argsL.toArray h Q') (wl : (Jvm.Cond.methodLink y.cls i yc).before a0 Z = true) (ws : (Jvm.Cond.static yc).before a0 Z = true) (wz : (Jvm.Cond.initialized yc.cls).before a0 Z = true) (wc : (Jvm.Cond.code yc bcc maxL rtc).before a0 Z = true) (hy : yc.cls ≠ "java/lang/invoke/MethodHandle" ∧ yc.cls ≠ "java/lang/invoke/VarHandle") (hlen : ∀ sig, parseMethodDescriptor yc.desc = some sig → argsL.length = sig.parameters.length) (hst : St = argsL.reverse ++ S) (hsz : L.size = ml) (hf : rm.frames + 1 ≤ R.frames) (hlo : (S.map fun v => v.category).sum + (maxL + 11) + rm.locals ≤ R.locals) (hc : cells + rm.cells ≤ R.cells) (hs : slots + rm.slots ≤ R.slots)
    (hd : decode bc pc = .ok (.invokestatic i, 3)) (hp : pc + 3 = pc') (hIc : ∀ vm, I vm → Ic vm) (hstc : oSt Ic) (k : ∀ (T' : State) (v : Option Value) (h' : Heap), oH p l e R s m args below meth c bc ml y rt Z n0 T' h' (cells + rm.cells) (slots + rm.slots) false (Jc h') → Q' v h' → oG p e below s n0 kc ks J Q (T'.setTop (mkF m pc' L (v.toList ++ S)))) : oG p e below s n0 kc ks J Q (T.setTop (mkF m pc L St)) := by
  obtain ⟨vm0, k0, locs, X, eT, N, hx, hby, hml, hZ, hown, hnm, hret, hlk, hn, hS, hk, hB, hI⟩ := H
  subst hp
  subst hst
  obtain ⟨v, _, ⟨T', L1, k1, n1⟩, -, X', hS', hgr, ⟨Lc, hQ, l', y', z'⟩, st⟩ := callSS X hx (y := yc) hown (mvT hZ wl) (mvT hZ ws) (mvT hZ wz) (mvT hZ wc) hy (o_back (W := (S.map fun v => v.category).sum) con hZ (hIc _ hI) hstc wc wz hf hlo) (g := mkF m pc L (argsL.reverse ++ S)) rfl (by rw [hml]; exact hsz) (argsL := argsL) (rest := S) hlen rfl (by show 2 * 0 + _ ≤ _; omega) (hb hby hd) (fun _ _ => ⟨rfl, eT, hc, hs⟩)
  dsimp only [Pt.U, Pt.locs, Pt.cells, Pt.slots] at X' l' y' z' st hQ hS' hgr
  subst l' y' z'
  exact oG.go (fun _ hr => st.trans hr) (k _ _ _ ⟨T'.vm, T'.heap.size, _, X', rfl, Fr.app N hQ.2.1, hx, hby, hml, State.Warmed39.trans (t := s.setVm vm0) hZ hS'.1, (by rw [hS'.1.alike.findClass]; exact hown), hnm, hret, hlk, hn, hS.trans hS' (Nat.le_trans (by rw [eT]; exact hk) hgr), Nat.le_refl _, (fun q => (nomatch q)), hQ.2.2⟩ hQ.1)
theorem o_special (H : oH p l e R s m args below meth c bc ml y rt Z n0 T h cells slots b I) {yc : MethodName} {bcc : ByteArray} {maxL i : Nat} {rm : Room} {a : Addr} {Q' : Option Value → Heap → Prop} {St : List Value} (argsL : List Value) (S : List Value)
    {Ic : Vm → Prop} {Jc : Heap → Vm → Prop} (con : oC l Z n0 Ic Jc yc bcc maxL none rm rm.cells rm.slots (.ref a :: argsL).toArray h Q') (hy1 : yc.name = "<init>") (wl : (Jvm.Cond.methodLink y.cls i yc).before a0 Z = true) (ws : (Jvm.Cond.instanceMethod yc).before a0 Z = true) (wz : (Jvm.Cond.initialized yc.cls).before a0 Z = true) (wc : (Jvm.Cond.code yc bcc maxL none).before a0 Z = true) (hy : yc.cls ≠ "java/lang/invoke/MethodHandle" ∧ yc.cls ≠ "java/lang/invoke/VarHandle") (hlen : ∀ sig, parseMethodDescriptor yc.desc = some sig → argsL.length = sig.parameters.length) (hst : St = argsL.reverse ++ .ref a :: S) (hsz : L.size = ml) (hf : rm.frames + 1 ≤ R.frames) (hlo : (S.map fun v => v.category).sum + (maxL + 11) + rm.locals ≤ R.locals) (hc : cells + rm.cells ≤ R.cells) (hs : slots + rm.slots ≤ R.slots)
    (hd : decode bc pc = .ok (.invokespecial i, 3)) (hp : pc + 3 = pc') (hIc : ∀ vm, I vm → Ic vm) (hstc : oSt Ic) (k : ∀ (T' : State) (v : Option Value) (h' : Heap), oH p l e R s m args below meth c bc ml y rt Z n0 T' h' (cells + rm.cells) (slots + rm.slots) false (Jc h') → Q' v h' → oG p e below s n0 kc ks J Q (T'.setTop (mkF m pc' L (v.toList ++ S)))) : oG p e below s n0 kc ks J Q (T.setTop (mkF m pc L St)) := by
  obtain ⟨vm0, k0, locs, X, eT, N, hx, hby, hml, hZ, hown, hnm, hret, hlk, hn, hS, hk, hB, hI⟩ := H
  subst hp
  subst hst
  obtain ⟨v, _, ⟨T', L1, k1, n1⟩, -, X', hS', hgr, ⟨Lc, hQ, l', y', z'⟩, st⟩ := X.specialBackS hx (y := yc) hy1 hown (mvT hZ wl) (mvT hZ ws) (mvT hZ wc) hy (o_back (W := (S.map fun v => v.category).sum) con hZ (hIc _ hI) hstc wc wz hf hlo) (g := mkF m pc L (argsL.reverse ++ .ref a :: S)) rfl (by rw [hml]; exact hsz) (Steps.refl _) (a := a) (argsL := argsL) (rest := S) hlen rfl (by show 2 * 0 + _ ≤ _; omega) (hb hby hd) (fun _ _ => ⟨rfl, eT, hc, hs⟩)
  dsimp only [Pt.U, Pt.locs, Pt.cells, Pt.slots] at X' l' y' z' st hQ hS' hgr
  subst l' y' z'
  exact oG.go (fun _ hr => st.trans hr) (k _ _ _ ⟨T'.vm, T'.heap.size, _, X', rfl, Fr.app N hQ.2.1, hx, hby, hml, State.Warmed39.trans (t := s.setVm vm0) hZ hS'.1, (by rw [hS'.1.alike.findClass]; exact hown), hnm, hret, hlk, hn, hS.trans hS' (Nat.le_trans (by rw [eT]; exact hk) hgr), Nat.le_refl _, (fun q => (nomatch q)), hQ.2.2⟩ hQ.1)
theorem o_virtual (H : oH p l e R s m args below meth c bc ml y rt Z n0 T h cells slots b I) {yc zc : MethodName} {K : String} {bcc : ByteArray} {maxL i : Nat} {rtc : Option FieldType} {rm : Room} {a : Addr} {Q' : Option Value → Heap → Prop} {St : List Value} (argsL : List Value) (S : List Value)
    {Ic : Vm → Prop} {Jc : Heap → Vm → Prop} (con : oC l Z n0 Ic Jc zc bcc maxL rtc rm rm.cells rm.slots (.ref a :: argsL).toArray h Q') (E : Exa Z h a K) (wl : (Jvm.Cond.methodLink y.cls i yc).before a0 Z = true) (wd : (Jvm.Cond.declares yc).before a0 Z = true) (hnf : ∀ {s' : State}, Z.Warmed39 s'.vm → NotFace s' yc) (wsel : (Jvm.Cond.selects K yc zc).before a0 Z = true) (ws : (Jvm.Cond.instanceMethod zc).before a0 Z = true) (wz : (Jvm.Cond.initialized zc.cls).before a0 Z = true) (wc : (Jvm.Cond.code zc bcc maxL rtc).before a0 Z = true) (hy : yc.cls ≠ "java/lang/invoke/MethodHandle" ∧ yc.cls ≠ "java/lang/invoke/VarHandle") (hlen : ∀ sig, parseMethodDescriptor yc.desc = some sig → argsL.length = sig.parameters.length) (hst : St = argsL.reverse ++ .ref a :: S) (hsz : L.size = ml) (hf : rm.frames + 1 ≤ R.frames) (hlo : (S.map fun v => v.category).sum + (maxL + 11) + rm.locals ≤ R.locals) (hc : cells + rm.cells ≤ R.cells) (hs : slots + rm.slots ≤ R.slots)
    (hd : decode bc pc = .ok (.invokevirtual i, 3)) (hp : pc + 3 = pc') (hIc : ∀ vm, I vm → Ic vm) (hstc : oSt Ic) (k : ∀ (T' : State) (v : Option Value) (h' : Heap), oH p l e R s m args below meth c bc ml y rt Z n0 T' h' (cells + rm.cells) (slots + rm.slots) false (Jc h') → Q' v h' → oG p e below s n0 kc ks J Q (T'.setTop (mkF m pc' L (v.toList ++ S)))) : oG p e below s n0 kc ks J Q (T.setTop (mkF m pc L St)) := by
  obtain ⟨vm0, k0, locs, X, eT, N, hx, hby, hml, hZ, hown, hnm, hret, hlk, hn, hS, hk, hB, hI⟩ := H
  subst hp
  subst hst
  obtain ⟨cq, kq, qa, qb, qc⟩ := isOf (s := s.setVm vm0) hZ eT E
  obtain ⟨v, _, ⟨T', L1, k1, n1⟩, -, X', hS', hgr, ⟨Lc, hQ, l', y', z'⟩, st⟩ := X.virtualBackS hx (y := yc) (z := zc) hown (mvT hZ wl) (mvT hZ wd) (hnf hZ) (mvT hZ wsel) (mvT hZ ws) hy (o_back (W := (S.map fun v => v.category).sum) con hZ (hIc _ hI) hstc wc wz hf hlo) qa qc (g := mkF m pc L (argsL.reverse ++ .ref a :: S)) rfl (by rw [hml]; exact hsz) (Steps.refl _) (argsL := argsL) (rest := S) hlen rfl (by show 2 * 0 + _ ≤ _; omega) (hb hby hd) (fun _ _ => ⟨rfl, eT, hc, hs⟩)
  dsimp only [Pt.U, Pt.locs, Pt.cells, Pt.slots] at X' l' y' z' st hQ hS' hgr
  subst l' y' z'
  exact oG.go (fun _ hr => st.trans hr) (k _ _ _ ⟨T'.vm, T'.heap.size, _, X', rfl, Fr.app N hQ.2.1, hx, hby, hml, State.Warmed39.trans (t := s.setVm vm0) hZ hS'.1, (by rw [hS'.1.alike.findClass]; exact hown), hnm, hret, hlk, hn, hS.trans hS' (Nat.le_trans (by rw [eT]; exact hk) hgr), Nat.le_refl _, (fun q => (nomatch q)), hQ.2.2⟩ hQ.1)
theorem o_ldcS (H : oH p l e R s m args below meth c bc ml y rt Z n0 T h cells slots b I) {i n : Nat} {text : String} (w : (Jvm.Cond.stringLink y.cls i text).before a0 Z = true) (wS : ∀ a ∈ Bundle.stringAtoms, a.before a0 Z = true) (hd : decode bc pc = .ok (.ldc i, 2)) (hp : pc + 2 = pc') (hn4 : 4 * text.toList.length ≤ n) (hbig : n ≤ 536870912) (hc : cells + 2 ≤ R.cells) (hl : slots + (n + 4) ≤ R.slots)
    (k : ∀ (T' : State) (h' : Heap) (a : Addr), oH p l e R s m args below meth c bc ml y rt Z n0 T' h' (cells + 2) (slots + (n + 4)) false (fun _ => True) → Ext h h' → oG p e below s n0 kc ks J Q (T'.setTop (mkF m pc' L (.ref a :: S)))) : oG p e below s n0 kc ks J Q (T.setTop (mkF m pc L S)) := by
  obtain ⟨vm0, k0, locs, X, eT, N, hx, hby, hml, hZ, hown, hnm, hret, hlk, hn, hS, hk, hB, hI⟩ := H
  subst hp
  obtain ⟨a, T', h', k1, X', e', E, hS', hk', hZ', hown', st⟩ := ldcS X hx hZ hown w wS eT hS hk (g := mkF m pc L S) rfl (hb hby hd) hn4 hbig hc hl
  exact oG.go st (k T' h' a ⟨T'.vm, k1, locs, X', e', N, hx, hby, hml, hZ', hown', hnm, hret, hlk, hn, hS', hk', (fun q => (nomatch q)), trivial⟩ E)
theorem o_ldcSV (H : oH p l e R s m args below meth c bc ml y rt Z n0 T h cells slots b I) {i n : Nat} {text : String} (hbt : b = true) (hib : ∀ vm, I vm → IB Z vm []) (w : (Jvm.Cond.stringLink y.cls i text).before a0 Z = true) (wS : ∀ a ∈ Bundle.stringAtoms, a.before a0 Z = true) (hh : Jvm.Lit.constHeld Z y.cls i) (hcw : Jvm.Lit.compactW.before a0 Z = true) {vs : List Value} {z : Int32} (ht : (∀ c ∈ text.toList, c.toNat < 256) ∧ text.toList.map (fun c => Value.int (Jvm.Lit.byteI c.toNat.toUInt16)) = vs) (hz : ¬ z < 0) (hl0 : z.toNatClampNeg = vs.length)
    (hd : decode bc pc = .ok (.ldc i, 2)) (hp : pc + 2 = pc') (hn4 : 4 * text.toList.length ≤ n) (hbig : n ≤ 536870912) (hc : cells + 2 ≤ R.cells) (hl : slots + (n + 4) ≤ R.slots)
    (k : ∀ (T' : State) (h' : Heap) (a bv : Addr), oH p l e R s m args below meth c bc ml y rt Z n0 T' h' (cells + 2) (slots + (n + 4)) false (fun vm => Lit (Z.setVm vm) y.cls i a) → Ext h h' → Exa Z h' a "java/lang/String" → Fld Z h' a "java/lang/String" "coder" "B" (.int 0) → Fld Z h' a "java/lang/String" "value" "[B" (.ref bv) → oG p e below s n0 kc ks J Q (T'.setTop (mkF m pc' L (.ref a :: S)))) : oG p e below s n0 kc ks J Q (T.setTop (mkF m pc L S)) := by
  obtain ⟨vm0, k0, locs, X, eT, N, hx, hby, hml, hZ, hown, hnm, hret, hlk, hn, hS, hk, hB, hI⟩ := H
  subst hp
  obtain ⟨hE, hF⟩ := hB hbt
  obtain ⟨a, T', h', k1, bv, kk, X', e', E, hS', hk', hZ', hown', x1, x2, x3, x4, x5, x6, x7, x8, st⟩ := ldcSVL X hx hZ hown w wS eT hS hk hF hE.2 (hib _ hI) (by simp) hh hcw ht hz hl0 (g := mkF m pc L S) rfl (hb hby hd) hn4 hbig hc hl
  exact oG.go st (k T' h' a bv ⟨T'.vm, k1, locs, X', e', N, hx, hby, hml, hZ', hown', hnm, hret, hlk, hn, hS', hk', (fun q => (nomatch q)), x8⟩ E x1 x2 x3)
theorem o_ldcA (H : oH p l e R s m args below meth c bc ml y rt Z n0 T h cells slots b I) {i : Nat} {text : String} {a : Addr} (w : (Jvm.Cond.stringLink y.cls i text).before a0 Z = true) (hL : ∀ vm, I vm → Lit (Z.setVm vm) y.cls i a) (hd : decode bc pc = .ok (.ldc i, 2)) (hp : pc + 2 = pc') (k : oG p e below s n0 kc ks J Q (T.setTop (mkF m pc' L (.ref a :: S)))) : oG p e below s n0 kc ks J Q (T.setTop (mkF m pc L S)) := by
  obtain ⟨vm0, k0, locs, X, eT, N, hx, hby, hml, hZ, hown, hnm, hret, hlk, hn, hS, hk, hB, hI⟩ := H
  subst hp
  exact oG.go (ldcAgain X hx hZ hown w (a := a) (hL _ hI) (g := mkF m pc L S) rfl (hb hby hd)) k
theorem oH.open {α : Type} {P : α → Prop} {I' : α → Vm → Prop} (H : oH p l e R s m args below meth c bc ml y rt Z n0 T h cells slots b (fun vm => ∃ a, P a ∧ I' a vm)) : ∃ a, P a ∧ oH p l e R s m args below meth c bc ml y rt Z n0 T h cells slots b (I' a) := by
  obtain ⟨vm0, k0, locs, X, eT, N, hx, hby, hml, hZ, hown, hnm, hret, hlk, hn, hS, hk, hB, a, hP, hI⟩ := H
  exact ⟨a, hP, vm0, k0, locs, X, eT, N, hx, hby, hml, hZ, hown, hnm, hret, hlk, hn, hS, hk, hB, hI⟩
theorem o_ldcSW (H : oH p l e R s m args below meth c bc ml y rt Z n0 T h cells slots b I) {i n : Nat} {text : String} (hbt : b = true) (hib : ∀ vm, I vm → IB Z vm []) (w : (Jvm.Cond.stringLink y.cls i text).before a0 Z = true) (wS : ∀ a ∈ Bundle.stringAtoms, a.before a0 Z = true) (hh : Jvm.Lit.constHeld Z y.cls i) (hcw : Jvm.Lit.compactW.before a0 Z = true) {z : Int32} (ht : (∀ c ∈ text.toList, c.toNat < 256) ∧ text.toList.map (fun c => Value.int (Jvm.Lit.byteI c.toNat.toUInt16)) = []) (hz : ¬ z < 0) (hl0 : z.toNatClampNeg = 0)
    (hd : decode bc pc = .ok (.ldc i, 2)) (hp : pc + 2 = pc') (hn4 : 4 * text.toList.length ≤ n) (hbig : n ≤ 536870912) (hc : cells + 2 ≤ R.cells) (hl : slots + (n + 4) ≤ R.slots)
    (k : ∀ (T' : State) (h' : Heap) (a bv : Addr), oH p l e R s m args below meth c bc ml y rt Z n0 T' h' (cells + 2) (slots + (n + 4)) false (fun vm => Lit (Z.setVm vm) y.cls i a) → Ext h h' → Exa Z h' a "java/lang/String" → Fld Z h' a "java/lang/String" "coder" "B" (.int 0) → Fld Z h' a "java/lang/String" "value" "[B" (.ref bv) → oA .byte Z h' bv [] → oG p e below s n0 kc ks J Q (T'.setTop (mkF m pc' L (.ref a :: S)))) : oG p e below s n0 kc ks J Q (T.setTop (mkF m pc L S)) := by
  obtain ⟨vm0, k0, locs, X, eT, N, hx, hby, hml, hZ, hown, hnm, hret, hlk, hn, hS, hk, hB, hI⟩ := H
  subst hp
  obtain ⟨hE, hF⟩ := hB hbt
  obtain ⟨a, T', h', k1, bv, kk, X', e', E, hS', hk', hZ', hown', x1, x2, x3, x4, x5, x6, x7, x8, st⟩ := ldcSVL X hx hZ hown w wS eT hS hk hF hE.2 (hib _ hI) (by simp) hh hcw ht hz hl0 (g := mkF m pc L S) rfl (hb hby hd) hn4 hbig hc hl
  have x9 : oA .byte Z h' bv [] := by
    obtain ⟨cc, A, -, sz, -⟩ := x4
    exact ⟨by simp, cc, A, by rw [hl0] at sz; exact Array.eq_empty_of_size_eq_zero sz⟩
  exact oG.go st (k T' h' a bv ⟨T'.vm, k1, locs, X', e', N, hx, hby, hml, hZ', hown', hnm, hret, hlk, hn, hS', hk', (fun q => (nomatch q)), x8⟩ E x1 x2 x3 x9)
theorem o_nf {yc : MethodName} {K : String} (w : (Jvm.Cond.selects K yc yc).before a0 Z = true) : ∀ {s' : State}, Z.Warmed39 s'.vm → NotFace s' yc := fun {s'} hZ => notFace_of_selects (args := #[]) (mvT hZ w)
theorem n_lt (x z : Int32) : x < z ↔ x.toInt < z.toInt := Int32.lt_iff_toInt_lt
theorem n_eq (x z : Int32) : x = z ↔ x.toInt = z.toInt := Int32.toInt_inj.symm
theorem n_ltJ (x z : Int64) : x < z ↔ x.toInt < z.toInt := Int64.lt_iff_toInt_lt
theorem n_eqJ (x z : Int64) : x = z ↔ x.toInt = z.toInt := Int64.toInt_inj.symm
theorem n_and (x z : Int32) (h : 0 ≤ z.toInt) : 0 ≤ (x &&& z).toInt ∧ (x &&& z).toInt ≤ z.toInt := by
  have q : (x &&& z).toBitVec.toNat = x.toBitVec.toNat &&& z.toBitVec.toNat := by show (x.toBitVec &&& z.toBitVec).toNat = _; rw [BitVec.toNat_and]
  have o : x.toBitVec.toNat &&& z.toBitVec.toNat ≤ z.toBitVec.toNat := Nat.and_le_right
  have lm := z.toBitVec.isLt
  change 0 ≤ z.toBitVec.toInt at h
  show 0 ≤ (x &&& z).toBitVec.toInt ∧ (x &&& z).toBitVec.toInt ≤ z.toBitVec.toInt
  rw [BitVec.toInt_eq_toNat_cond] at h
  simp only [BitVec.toInt_eq_toNat_cond, q]
  split at h <;> (repeat' split) <;> omega
theorem n_andJ (x z : Int64) (h : 0 ≤ z.toInt) : 0 ≤ (x &&& z).toInt ∧ (x &&& z).toInt ≤ z.toInt := by
  have q : (x &&& z).toBitVec.toNat = x.toBitVec.toNat &&& z.toBitVec.toNat := by show (x.toBitVec &&& z.toBitVec).toNat = _; rw [BitVec.toNat_and]
  have o : x.toBitVec.toNat &&& z.toBitVec.toNat ≤ z.toBitVec.toNat := Nat.and_le_right
  have lm := z.toBitVec.isLt
  change 0 ≤ z.toBitVec.toInt at h
  show 0 ≤ (x &&& z).toBitVec.toInt ∧ (x &&& z).toBitVec.toInt ≤ z.toBitVec.toInt
  rw [BitVec.toInt_eq_toNat_cond] at h
  simp only [BitVec.toInt_eq_toNat_cond, q]
  split at h <;> (repeat' split) <;> omega
theorem n_rem (x z : Int32) (d : Int) (hd : 0 < d) (hz : z.toInt = d) (hx : 0 ≤ x.toInt) : (x % z).toInt = x.toInt % d := by
  rw [Int32.toInt_mod, hz, Int.tmod_eq_emod_of_nonneg hx]
theorem n_nat (x : Int32) (n : Nat) (h0 : 0 ≤ x.toInt) (h1 : x.toInt < n) : ∃ i : Fin n, x = Int32.ofNat i.1 := by
  refine ⟨⟨x.toInt.toNat, by omega⟩, ?_⟩
  rw [n_eq]
  have := Int32.toInt_lt x
  have e : (Int32.ofNat x.toInt.toNat).toInt = x.toInt.toNat := Int32.toInt_ofNat_of_lt (by omega)
  show x.toInt = (Int32.ofNat x.toInt.toNat).toInt
  rw [e]; omega
end Own

theorem w0 {Z : State} {a0 : Array Value} (hw : ∀ d ∈ tables_1, d.before a0 Z = true) : (Jvm.Cond.constant "com/example/encase/encase/codec/LabelsLowerAsciiPinLaw" (7 : Nat) (2147483647 : Int32)).before a0 Z = true := hw _ (List.mem_of_getElem? (i := 0) rfl)
theorem w1 {Z : State} {a0 : Array Value} (hw : ∀ d ∈ tables_1, d.before a0 Z = true) : (Jvm.Cond.arrayClass Jvm.ClassFile.FieldType.char).before a0 Z = true := hw _ (List.mem_of_getElem? (i := 1) rfl)
theorem w2 {Z : State} {a0 : Array Value} (hw : ∀ d ∈ tables_1, d.before a0 Z = true) : (Jvm.Cond.constant "com/example/encase/encase/codec/LabelsLowerAsciiPinLaw" (8 : Nat) (65535 : Int32)).before a0 Z = true := hw _ (List.mem_of_getElem? (i := 2) rfl)
theorem w3 {Z : State} {a0 : Array Value} (hw : ∀ d ∈ tables_1, d.before a0 Z = true) : (Jvm.Cond.methodLink "com/example/encase/encase/codec/LabelsLowerAsciiPinLaw" (9 : Nat) ({ cls := "com/example/encase/encase/codec/LabelsLowerAsciiPinLaw", name := "make", desc := "(I[C)Ljava/lang/String;" } : Jvm.MethodName)).before a0 Z = true := hw _ (List.mem_of_getElem? (i := 3) rfl)
theorem w4 {Z : State} {a0 : Array Value} (hw : ∀ d ∈ tables_1, d.before a0 Z = true) : (Jvm.Cond.static ({ cls := "com/example/encase/encase/codec/LabelsLowerAsciiPinLaw", name := "make", desc := "(I[C)Ljava/lang/String;" } : Jvm.MethodName)).before a0 Z = true := hw _ (List.mem_of_getElem? (i := 4) rfl)
theorem w5 {Z : State} {a0 : Array Value} (hw : ∀ d ∈ tables_1, d.before a0 Z = true) : (Jvm.Cond.initialized "com/example/encase/encase/codec/LabelsLowerAsciiPinLaw").before a0 Z = true := hw _ (List.mem_of_getElem? (i := 5) rfl)
theorem w6 {Z : State} {a0 : Array Value} (hw : ∀ d ∈ tables_1, d.before a0 Z = true) : (Jvm.Cond.code ({ cls := "com/example/encase/encase/codec/LabelsLowerAsciiPinLaw", name := "make", desc := "(I[C)Ljava/lang/String;" } : Jvm.MethodName) method_3_code (2 : Nat) (Option.some (Jvm.ClassFile.FieldType.object "java/lang/String"))).before a0 Z = true := hw _ (List.mem_of_getElem? (i := 6) rfl)
theorem w7 {Z : State} {a0 : Array Value} (hw : ∀ d ∈ tables_1, d.before a0 Z = true) : (Jvm.Cond.classLink "com/example/encase/encase/codec/LabelsLowerAsciiPinLaw" (22 : Nat) "java/lang/String").before a0 Z = true := hw _ (List.mem_of_getElem? (i := 7) rfl)
theorem w8 {Z : State} {a0 : Array Value} (hw : ∀ d ∈ tables_1, d.before a0 Z = true) : (Jvm.Cond.instantiable "java/lang/String" (4 : Nat)).before a0 Z = true := hw _ (List.mem_of_getElem? (i := 8) rfl)
theorem w9 {Z : State} {a0 : Array Value} (hw : ∀ d ∈ tables_1, d.before a0 Z = true) : (Jvm.Cond.initialized "java/lang/String").before a0 Z = true := hw _ (List.mem_of_getElem? (i := 9) rfl)
theorem w10 {Z : State} {a0 : Array Value} (hw : ∀ d ∈ tables_1, d.before a0 Z = true) : (Jvm.Cond.methodLink "com/example/encase/encase/codec/LabelsLowerAsciiPinLaw" (31 : Nat) ({ cls := "java/lang/String", name := "<init>", desc := "([C)V" } : Jvm.MethodName)).before a0 Z = true := hw _ (List.mem_of_getElem? (i := 10) rfl)
theorem w11 {Z : State} {a0 : Array Value} (hw : ∀ d ∈ tables_1, d.before a0 Z = true) : (Jvm.Cond.instanceMethod ({ cls := "java/lang/String", name := "<init>", desc := "([C)V" } : Jvm.MethodName)).before a0 Z = true := hw _ (List.mem_of_getElem? (i := 11) rfl)
theorem w12 {Z : State} {a0 : Array Value} (hw : ∀ d ∈ tables_1, d.before a0 Z = true) : (Jvm.Cond.code ({ cls := "java/lang/String", name := "<init>", desc := "([C)V" } : Jvm.MethodName) jdk_42_method_3_code (2 : Nat) (Option.none : Option Jvm.ClassFile.FieldType)).before a0 Z = true := hw _ (List.mem_of_getElem? (i := 12) rfl)
theorem w13 {Z : State} {a0 : Array Value} (hw : ∀ d ∈ tables_1, d.before a0 Z = true) : (Jvm.Cond.methodLink "java/lang/String" (27 : Nat) ({ cls := "java/lang/String", name := "<init>", desc := "([CIILjava/lang/Void;)V" } : Jvm.MethodName)).before a0 Z = true := hw _ (List.mem_of_getElem? (i := 13) rfl)
theorem w14 {Z : State} {a0 : Array Value} (hw : ∀ d ∈ tables_1, d.before a0 Z = true) : (Jvm.Cond.instanceMethod ({ cls := "java/lang/String", name := "<init>", desc := "([CIILjava/lang/Void;)V" } : Jvm.MethodName)).before a0 Z = true := hw _ (List.mem_of_getElem? (i := 14) rfl)
theorem w15 {Z : State} {a0 : Array Value} (hw : ∀ d ∈ tables_1, d.before a0 Z = true) : (Jvm.Cond.castable "java/lang/String" "java/lang/String").before a0 Z = true := hw _ (List.mem_of_getElem? (i := 15) rfl)
theorem w16 {Z : State} {a0 : Array Value} (hw : ∀ d ∈ tables_1, d.before a0 Z = true) : (Jvm.Cond.code ({ cls := "java/lang/String", name := "<init>", desc := "([CIILjava/lang/Void;)V" } : Jvm.MethodName) jdk_42_method_149_code (6 : Nat) (Option.none : Option Jvm.ClassFile.FieldType)).before a0 Z = true := hw _ (List.mem_of_getElem? (i := 16) rfl)
theorem w17 {Z : State} {a0 : Array Value} (hw : ∀ d ∈ tables_1, d.before a0 Z = true) : (Jvm.Cond.methodLink "java/lang/String" (1 : Nat) ({ cls := "java/lang/Object", name := "<init>", desc := "()V" } : Jvm.MethodName)).before a0 Z = true := hw _ (List.mem_of_getElem? (i := 17) rfl)
theorem w18 {Z : State} {a0 : Array Value} (hw : ∀ d ∈ tables_1, d.before a0 Z = true) : (Jvm.Cond.instanceMethod ({ cls := "java/lang/Object", name := "<init>", desc := "()V" } : Jvm.MethodName)).before a0 Z = true := hw _ (List.mem_of_getElem? (i := 18) rfl)
theorem w19 {Z : State} {a0 : Array Value} (hw : ∀ d ∈ tables_1, d.before a0 Z = true) : (Jvm.Cond.code ({ cls := "java/lang/Object", name := "<init>", desc := "()V" } : Jvm.MethodName) object_method_1_code (1 : Nat) (Option.none : Option Jvm.ClassFile.FieldType)).before a0 Z = true := hw _ (List.mem_of_getElem? (i := 19) rfl)
theorem w20 {Z : State} {a0 : Array Value} (hw : ∀ d ∈ tables_1, d.before a0 Z = true) : (Jvm.Cond.stringLink "java/lang/String" (7 : Nat) "").before a0 Z = true := hw _ (List.mem_of_getElem? (i := 20) rfl)
theorem w21 {Z : State} {a0 : Array Value} (hw : ∀ d ∈ tables_1, d.before a0 Z = true) : (Jvm.Cond.arrayClass Jvm.ClassFile.FieldType.byte).before a0 Z = true := hw _ (List.mem_of_getElem? (i := 21) rfl)
theorem w22 {Z : State} {a0 : Array Value} (hw : ∀ d ∈ tables_1, d.before a0 Z = true) : (Jvm.Cond.laysFinal "java/lang/String" "java/lang/String" "value" "[B").before a0 Z = true := hw _ (List.mem_of_getElem? (i := 22) rfl)
theorem w23 {Z : State} {a0 : Array Value} (hw : ∀ d ∈ tables_1, d.before a0 Z = true) : (Jvm.Cond.laysFinal "java/lang/String" "java/lang/String" "coder" "B").before a0 Z = true := hw _ (List.mem_of_getElem? (i := 23) rfl)
theorem w24 {Z : State} {a0 : Array Value} (hw : ∀ d ∈ tables_1, d.before a0 Z = true) : (Jvm.Cond.soleField "java/lang/String" "value").before a0 Z = true := hw _ (List.mem_of_getElem? (i := 24) rfl)
theorem w25 {Z : State} {a0 : Array Value} (hw : ∀ d ∈ tables_1, d.before a0 Z = true) : (Jvm.Cond.soleField "java/lang/String" "coder").before a0 Z = true := hw _ (List.mem_of_getElem? (i := 25) rfl)
theorem w26 {Z : State} {a0 : Array Value} (hw : ∀ d ∈ tables_1, d.before a0 Z = true) : (Jvm.Cond.fieldLink "java/lang/String" (9 : Nat) "java/lang/String" "value" "[B").before a0 Z = true := hw _ (List.mem_of_getElem? (i := 26) rfl)
theorem w27 {Z : State} {a0 : Array Value} (hw : ∀ d ∈ tables_1, d.before a0 Z = true) : (Jvm.Cond.fieldLink "java/lang/String" (15 : Nat) "java/lang/String" "coder" "B").before a0 Z = true := hw _ (List.mem_of_getElem? (i := 27) rfl)
theorem w28 {Z : State} {a0 : Array Value} (hw : ∀ d ∈ tables_1, d.before a0 Z = true) : (Jvm.Cond.methodLink "com/example/encase/encase/codec/LabelsLowerAsciiPinLaw" (15 : Nat) ({ cls := "com/example/encase/encase/codec/Labels", name := "lowerAscii", desc := "(Ljava/lang/String;I)Ljava/lang/String;" } : Jvm.MethodName)).before a0 Z = true := hw _ (List.mem_of_getElem? (i := 28) rfl)
theorem w29 {Z : State} {a0 : Array Value} (hw : ∀ d ∈ tables_1, d.before a0 Z = true) : (Jvm.Cond.static ({ cls := "com/example/encase/encase/codec/Labels", name := "lowerAscii", desc := "(Ljava/lang/String;I)Ljava/lang/String;" } : Jvm.MethodName)).before a0 Z = true := hw _ (List.mem_of_getElem? (i := 29) rfl)
theorem w30 {Z : State} {a0 : Array Value} (hw : ∀ d ∈ tables_1, d.before a0 Z = true) : (Jvm.Cond.initialized "com/example/encase/encase/codec/Labels").before a0 Z = true := hw _ (List.mem_of_getElem? (i := 30) rfl)
theorem w31 {Z : State} {a0 : Array Value} (hw : ∀ d ∈ tables_1, d.before a0 Z = true) : (Jvm.Cond.code ({ cls := "com/example/encase/encase/codec/Labels", name := "lowerAscii", desc := "(Ljava/lang/String;I)Ljava/lang/String;" } : Jvm.MethodName) prog_20_method_12_code (4 : Nat) (Option.some (Jvm.ClassFile.FieldType.object "java/lang/String"))).before a0 Z = true := hw _ (List.mem_of_getElem? (i := 31) rfl)
theorem w32 {Z : State} {a0 : Array Value} (hw : ∀ d ∈ tables_1, d.before a0 Z = true) : (Jvm.Cond.methodLink "com/example/encase/encase/codec/Labels" (62 : Nat) ({ cls := "java/lang/String", name := "length", desc := "()I" } : Jvm.MethodName)).before a0 Z = true := hw _ (List.mem_of_getElem? (i := 32) rfl)
theorem w33 {Z : State} {a0 : Array Value} (hw : ∀ d ∈ tables_1, d.before a0 Z = true) : (Jvm.Cond.declares ({ cls := "java/lang/String", name := "length", desc := "()I" } : Jvm.MethodName)).before a0 Z = true := hw _ (List.mem_of_getElem? (i := 33) rfl)
theorem w34 {Z : State} {a0 : Array Value} (hw : ∀ d ∈ tables_1, d.before a0 Z = true) : (Jvm.Cond.instanceMethod ({ cls := "java/lang/String", name := "length", desc := "()I" } : Jvm.MethodName)).before a0 Z = true := hw _ (List.mem_of_getElem? (i := 34) rfl)
theorem w35 {Z : State} {a0 : Array Value} (hw : ∀ d ∈ tables_1, d.before a0 Z = true) : (Jvm.Cond.selects "java/lang/String" ({ cls := "java/lang/String", name := "length", desc := "()I" } : Jvm.MethodName) ({ cls := "java/lang/String", name := "length", desc := "()I" } : Jvm.MethodName)).before a0 Z = true := hw _ (List.mem_of_getElem? (i := 35) rfl)
theorem w36 {Z : State} {a0 : Array Value} (hw : ∀ d ∈ tables_1, d.before a0 Z = true) : (Jvm.Cond.code ({ cls := "java/lang/String", name := "length", desc := "()I" } : Jvm.MethodName) jdk_42_method_54_code (1 : Nat) (Option.some Jvm.ClassFile.FieldType.int)).before a0 Z = true := hw _ (List.mem_of_getElem? (i := 36) rfl)
theorem w37 {Z : State} {a0 : Array Value} (hw : ∀ d ∈ tables_1, d.before a0 Z = true) : (Jvm.Cond.methodLink "java/lang/String" (335 : Nat) ({ cls := "java/lang/String", name := "coder", desc := "()B" } : Jvm.MethodName)).before a0 Z = true := hw _ (List.mem_of_getElem? (i := 37) rfl)
theorem w38 {Z : State} {a0 : Array Value} (hw : ∀ d ∈ tables_1, d.before a0 Z = true) : (Jvm.Cond.declares ({ cls := "java/lang/String", name := "coder", desc := "()B" } : Jvm.MethodName)).before a0 Z = true := hw _ (List.mem_of_getElem? (i := 38) rfl)
theorem w39 {Z : State} {a0 : Array Value} (hw : ∀ d ∈ tables_1, d.before a0 Z = true) : (Jvm.Cond.instanceMethod ({ cls := "java/lang/String", name := "coder", desc := "()B" } : Jvm.MethodName)).before a0 Z = true := hw _ (List.mem_of_getElem? (i := 39) rfl)
theorem w40 {Z : State} {a0 : Array Value} (hw : ∀ d ∈ tables_1, d.before a0 Z = true) : (Jvm.Cond.selects "java/lang/String" ({ cls := "java/lang/String", name := "coder", desc := "()B" } : Jvm.MethodName) ({ cls := "java/lang/String", name := "coder", desc := "()B" } : Jvm.MethodName)).before a0 Z = true := hw _ (List.mem_of_getElem? (i := 40) rfl)
theorem w41 {Z : State} {a0 : Array Value} (hw : ∀ d ∈ tables_1, d.before a0 Z = true) : (Jvm.Cond.code ({ cls := "java/lang/String", name := "coder", desc := "()B" } : Jvm.MethodName) jdk_42_method_152_code (1 : Nat) (Option.some Jvm.ClassFile.FieldType.byte)).before a0 Z = true := hw _ (List.mem_of_getElem? (i := 41) rfl)
theorem w42 {Z : State} {a0 : Array Value} (hw : ∀ d ∈ tables_1, d.before a0 Z = true) : (Jvm.Cond.fieldLink "java/lang/String" (38 : Nat) "java/lang/String" "COMPACT_STRINGS" "Z").before a0 Z = true := hw _ (List.mem_of_getElem? (i := 42) rfl)
theorem w43 {Z : State} {a0 : Array Value} (hw : ∀ d ∈ tables_1, d.before a0 Z = true) : (Jvm.Cond.classLink "com/example/encase/encase/codec/Labels" (63 : Nat) "java/lang/String").before a0 Z = true := hw _ (List.mem_of_getElem? (i := 43) rfl)
theorem w44 {Z : State} {a0 : Array Value} (hw : ∀ d ∈ tables_1, d.before a0 Z = true) : (Jvm.Cond.methodLink "com/example/encase/encase/codec/Labels" (105 : Nat) ({ cls := "java/lang/String", name := "<init>", desc := "([C)V" } : Jvm.MethodName)).before a0 Z = true := hw _ (List.mem_of_getElem? (i := 44) rfl)
theorem w45 {Z : State} {a0 : Array Value} (hw : ∀ d ∈ tables_1, d.before a0 Z = true) : (Jvm.Cond.methodLink "com/example/encase/encase/codec/LabelsLowerAsciiPinLaw" (21 : Nat) ({ cls := "java/lang/String", name := "length", desc := "()I" } : Jvm.MethodName)).before a0 Z = true := hw _ (List.mem_of_getElem? (i := 45) rfl)
theorem w46 {Z : State} {a0 : Array Value} (hw : ∀ d ∈ tables_1, d.before a0 Z = true) : (Jvm.Cond.methodLink "com/example/encase/encase/codec/LabelsLowerAsciiPinLaw" (27 : Nat) ({ cls := "com/example/encase/encase/codec/LabelsLowerAsciiPinLaw", name := "at", desc := "(Ljava/lang/String;[CIII)Z" } : Jvm.MethodName)).before a0 Z = true := hw _ (List.mem_of_getElem? (i := 46) rfl)
theorem w47 {Z : State} {a0 : Array Value} (hw : ∀ d ∈ tables_1, d.before a0 Z = true) : (Jvm.Cond.static ({ cls := "com/example/encase/encase/codec/LabelsLowerAsciiPinLaw", name := "at", desc := "(Ljava/lang/String;[CIII)Z" } : Jvm.MethodName)).before a0 Z = true := hw _ (List.mem_of_getElem? (i := 47) rfl)
theorem w48 {Z : State} {a0 : Array Value} (hw : ∀ d ∈ tables_1, d.before a0 Z = true) : (Jvm.Cond.code ({ cls := "com/example/encase/encase/codec/LabelsLowerAsciiPinLaw", name := "at", desc := "(Ljava/lang/String;[CIII)Z" } : Jvm.MethodName) method_4_code (5 : Nat) (Option.some Jvm.ClassFile.FieldType.boolean)).before a0 Z = true := hw _ (List.mem_of_getElem? (i := 48) rfl)
theorem w49 {Z : State} {a0 : Array Value} (hw : ∀ d ∈ tables_1, d.before a0 Z = true) : (Jvm.Cond.methodLink "java/lang/String" (177 : Nat) ({ cls := "java/lang/StringUTF16", name := "compress", desc := "([CII)[B" } : Jvm.MethodName)).before a0 Z = true := hw _ (List.mem_of_getElem? (i := 49) rfl)
theorem w50 {Z : State} {a0 : Array Value} (hw : ∀ d ∈ tables_1, d.before a0 Z = true) : (Jvm.Cond.static ({ cls := "java/lang/StringUTF16", name := "compress", desc := "([CII)[B" } : Jvm.MethodName)).before a0 Z = true := hw _ (List.mem_of_getElem? (i := 50) rfl)
theorem w51 {Z : State} {a0 : Array Value} (hw : ∀ d ∈ tables_1, d.before a0 Z = true) : (Jvm.Cond.initialized "java/lang/StringUTF16").before a0 Z = true := hw _ (List.mem_of_getElem? (i := 51) rfl)
theorem w52 {Z : State} {a0 : Array Value} (hw : ∀ d ∈ tables_1, d.before a0 Z = true) : (Jvm.Cond.code ({ cls := "java/lang/StringUTF16", name := "compress", desc := "([CII)[B" } : Jvm.MethodName) jdk_52_method_16_code (6 : Nat) (Option.some (Jvm.ClassFile.FieldType.array Jvm.ClassFile.FieldType.byte))).before a0 Z = true := hw _ (List.mem_of_getElem? (i := 52) rfl)
theorem w53 {Z : State} {a0 : Array Value} (hw : ∀ d ∈ tables_1, d.before a0 Z = true) : (Jvm.Cond.methodLink "java/lang/StringUTF16" (115 : Nat) ({ cls := "java/lang/StringUTF16", name := "compress", desc := "([CI[BII)I" } : Jvm.MethodName)).before a0 Z = true := hw _ (List.mem_of_getElem? (i := 53) rfl)
theorem w54 {Z : State} {a0 : Array Value} (hw : ∀ d ∈ tables_1, d.before a0 Z = true) : (Jvm.Cond.static ({ cls := "java/lang/StringUTF16", name := "compress", desc := "([CI[BII)I" } : Jvm.MethodName)).before a0 Z = true := hw _ (List.mem_of_getElem? (i := 54) rfl)
theorem w55 {Z : State} {a0 : Array Value} (hw : ∀ d ∈ tables_1, d.before a0 Z = true) : (Jvm.Cond.code ({ cls := "java/lang/StringUTF16", name := "compress", desc := "([CI[BII)I" } : Jvm.MethodName) jdk_52_method_21_code (7 : Nat) (Option.some Jvm.ClassFile.FieldType.int)).before a0 Z = true := hw _ (List.mem_of_getElem? (i := 55) rfl)
theorem w56 {Z : State} {a0 : Array Value} (hw : ∀ d ∈ tables_1, d.before a0 Z = true) : (Jvm.Cond.methodLink "java/lang/String" (47 : Nat) ({ cls := "java/lang/StringUTF16", name := "coderFromArrayLen", desc := "([BI)B" } : Jvm.MethodName)).before a0 Z = true := hw _ (List.mem_of_getElem? (i := 56) rfl)
theorem w57 {Z : State} {a0 : Array Value} (hw : ∀ d ∈ tables_1, d.before a0 Z = true) : (Jvm.Cond.static ({ cls := "java/lang/StringUTF16", name := "coderFromArrayLen", desc := "([BI)B" } : Jvm.MethodName)).before a0 Z = true := hw _ (List.mem_of_getElem? (i := 57) rfl)
theorem w58 {Z : State} {a0 : Array Value} (hw : ∀ d ∈ tables_1, d.before a0 Z = true) : (Jvm.Cond.code ({ cls := "java/lang/StringUTF16", name := "coderFromArrayLen", desc := "([BI)B" } : Jvm.MethodName) jdk_52_method_15_code (2 : Nat) (Option.some Jvm.ClassFile.FieldType.byte)).before a0 Z = true := hw _ (List.mem_of_getElem? (i := 58) rfl)
theorem w59 {Z : State} {a0 : Array Value} (hw : ∀ d ∈ tables_1, d.before a0 Z = true) : (Jvm.Cond.methodLink "com/example/encase/encase/codec/Labels" (100 : Nat) ({ cls := "java/lang/String", name := "charAt", desc := "(I)C" } : Jvm.MethodName)).before a0 Z = true := hw _ (List.mem_of_getElem? (i := 59) rfl)
theorem w60 {Z : State} {a0 : Array Value} (hw : ∀ d ∈ tables_1, d.before a0 Z = true) : (Jvm.Cond.declares ({ cls := "java/lang/String", name := "charAt", desc := "(I)C" } : Jvm.MethodName)).before a0 Z = true := hw _ (List.mem_of_getElem? (i := 60) rfl)
theorem w61 {Z : State} {a0 : Array Value} (hw : ∀ d ∈ tables_1, d.before a0 Z = true) : (Jvm.Cond.instanceMethod ({ cls := "java/lang/String", name := "charAt", desc := "(I)C" } : Jvm.MethodName)).before a0 Z = true := hw _ (List.mem_of_getElem? (i := 61) rfl)
theorem w62 {Z : State} {a0 : Array Value} (hw : ∀ d ∈ tables_1, d.before a0 Z = true) : (Jvm.Cond.selects "java/lang/String" ({ cls := "java/lang/String", name := "charAt", desc := "(I)C" } : Jvm.MethodName) ({ cls := "java/lang/String", name := "charAt", desc := "(I)C" } : Jvm.MethodName)).before a0 Z = true := hw _ (List.mem_of_getElem? (i := 62) rfl)
theorem w63 {Z : State} {a0 : Array Value} (hw : ∀ d ∈ tables_1, d.before a0 Z = true) : (Jvm.Cond.code ({ cls := "java/lang/String", name := "charAt", desc := "(I)C" } : Jvm.MethodName) jdk_42_method_56_code (2 : Nat) (Option.some Jvm.ClassFile.FieldType.char)).before a0 Z = true := hw _ (List.mem_of_getElem? (i := 63) rfl)
theorem w64 {Z : State} {a0 : Array Value} (hw : ∀ d ∈ tables_1, d.before a0 Z = true) : (Jvm.Cond.methodLink "java/lang/String" (492 : Nat) ({ cls := "java/lang/String", name := "isLatin1", desc := "()Z" } : Jvm.MethodName)).before a0 Z = true := hw _ (List.mem_of_getElem? (i := 64) rfl)
theorem w65 {Z : State} {a0 : Array Value} (hw : ∀ d ∈ tables_1, d.before a0 Z = true) : (Jvm.Cond.declares ({ cls := "java/lang/String", name := "isLatin1", desc := "()Z" } : Jvm.MethodName)).before a0 Z = true := hw _ (List.mem_of_getElem? (i := 65) rfl)
theorem w66 {Z : State} {a0 : Array Value} (hw : ∀ d ∈ tables_1, d.before a0 Z = true) : (Jvm.Cond.instanceMethod ({ cls := "java/lang/String", name := "isLatin1", desc := "()Z" } : Jvm.MethodName)).before a0 Z = true := hw _ (List.mem_of_getElem? (i := 66) rfl)
theorem w67 {Z : State} {a0 : Array Value} (hw : ∀ d ∈ tables_1, d.before a0 Z = true) : (Jvm.Cond.selects "java/lang/String" ({ cls := "java/lang/String", name := "isLatin1", desc := "()Z" } : Jvm.MethodName) ({ cls := "java/lang/String", name := "isLatin1", desc := "()Z" } : Jvm.MethodName)).before a0 Z = true := hw _ (List.mem_of_getElem? (i := 67) rfl)
theorem w68 {Z : State} {a0 : Array Value} (hw : ∀ d ∈ tables_1, d.before a0 Z = true) : (Jvm.Cond.code ({ cls := "java/lang/String", name := "isLatin1", desc := "()Z" } : Jvm.MethodName) jdk_42_method_154_code (1 : Nat) (Option.some Jvm.ClassFile.FieldType.boolean)).before a0 Z = true := hw _ (List.mem_of_getElem? (i := 68) rfl)
theorem w69 {Z : State} {a0 : Array Value} (hw : ∀ d ∈ tables_1, d.before a0 Z = true) : (Jvm.Cond.methodLink "java/lang/String" (495 : Nat) ({ cls := "java/lang/StringLatin1", name := "charAt", desc := "([BI)C" } : Jvm.MethodName)).before a0 Z = true := hw _ (List.mem_of_getElem? (i := 69) rfl)
theorem w70 {Z : State} {a0 : Array Value} (hw : ∀ d ∈ tables_1, d.before a0 Z = true) : (Jvm.Cond.static ({ cls := "java/lang/StringLatin1", name := "charAt", desc := "([BI)C" } : Jvm.MethodName)).before a0 Z = true := hw _ (List.mem_of_getElem? (i := 70) rfl)
theorem w71 {Z : State} {a0 : Array Value} (hw : ∀ d ∈ tables_1, d.before a0 Z = true) : (Jvm.Cond.initialized "java/lang/StringLatin1").before a0 Z = true := hw _ (List.mem_of_getElem? (i := 71) rfl)
theorem w72 {Z : State} {a0 : Array Value} (hw : ∀ d ∈ tables_1, d.before a0 Z = true) : (Jvm.Cond.code ({ cls := "java/lang/StringLatin1", name := "charAt", desc := "([BI)C" } : Jvm.MethodName) jdk_43_method_2_code (2 : Nat) (Option.some Jvm.ClassFile.FieldType.char)).before a0 Z = true := hw _ (List.mem_of_getElem? (i := 72) rfl)
theorem w73 {Z : State} {a0 : Array Value} (hw : ∀ d ∈ tables_1, d.before a0 Z = true) : (Jvm.Cond.methodLink "java/lang/StringLatin1" (9 : Nat) ({ cls := "java/lang/String", name := "checkIndex", desc := "(II)V" } : Jvm.MethodName)).before a0 Z = true := hw _ (List.mem_of_getElem? (i := 73) rfl)
theorem w74 {Z : State} {a0 : Array Value} (hw : ∀ d ∈ tables_1, d.before a0 Z = true) : (Jvm.Cond.static ({ cls := "java/lang/String", name := "checkIndex", desc := "(II)V" } : Jvm.MethodName)).before a0 Z = true := hw _ (List.mem_of_getElem? (i := 74) rfl)
theorem w75 {Z : State} {a0 : Array Value} (hw : ∀ d ∈ tables_1, d.before a0 Z = true) : (Jvm.Cond.code ({ cls := "java/lang/String", name := "checkIndex", desc := "(II)V" } : Jvm.MethodName) jdk_42_method_155_code (2 : Nat) (Option.none : Option Jvm.ClassFile.FieldType)).before a0 Z = true := hw _ (List.mem_of_getElem? (i := 75) rfl)
theorem w76 {Z : State} {a0 : Array Value} (hw : ∀ d ∈ tables_1, d.before a0 Z = true) : (Jvm.Cond.fieldLink "java/lang/String" (1053 : Nat) "jdk/internal/util/Preconditions" "SIOOBE_FORMATTER" "Ljava/util/function/BiFunction;").before a0 Z = true := hw _ (List.mem_of_getElem? (i := 76) rfl)
theorem w77 {Z : State} {a0 : Array Value} (hw : ∀ d ∈ tables_1, d.before a0 Z = true) : (Jvm.Cond.initialized "jdk/internal/util/Preconditions").before a0 Z = true := hw _ (List.mem_of_getElem? (i := 77) rfl)
theorem w78 {Z : State} {a0 : Array Value} (hw : ∀ d ∈ tables_1, d.before a0 Z = true) : (Jvm.Cond.methodLink "java/lang/String" (1059 : Nat) ({ cls := "jdk/internal/util/Preconditions", name := "checkIndex", desc := "(IILjava/util/function/BiFunction;)I" } : Jvm.MethodName)).before a0 Z = true := hw _ (List.mem_of_getElem? (i := 78) rfl)
theorem w79 {Z : State} {a0 : Array Value} (hw : ∀ d ∈ tables_1, d.before a0 Z = true) : (Jvm.Cond.static ({ cls := "jdk/internal/util/Preconditions", name := "checkIndex", desc := "(IILjava/util/function/BiFunction;)I" } : Jvm.MethodName)).before a0 Z = true := hw _ (List.mem_of_getElem? (i := 79) rfl)
theorem w80 {Z : State} {a0 : Array Value} (hw : ∀ d ∈ tables_1, d.before a0 Z = true) : (Jvm.Cond.code ({ cls := "jdk/internal/util/Preconditions", name := "checkIndex", desc := "(IILjava/util/function/BiFunction;)I" } : Jvm.MethodName) jdk_41_method_11_code (3 : Nat) (Option.some Jvm.ClassFile.FieldType.int)).before a0 Z = true := hw _ (List.mem_of_getElem? (i := 80) rfl)
theorem w81 {Z : State} {a0 : Array Value} (hw : ∀ d ∈ tables_1, d.before a0 Z = true) : (Jvm.Cond.methodLink "com/example/encase/encase/codec/Labels" (101 : Nat) ({ cls := "com/example/encase/encase/codec/Labels", name := "lowerAscii", desc := "(C)C" } : Jvm.MethodName)).before a0 Z = true := hw _ (List.mem_of_getElem? (i := 81) rfl)
theorem w82 {Z : State} {a0 : Array Value} (hw : ∀ d ∈ tables_1, d.before a0 Z = true) : (Jvm.Cond.static ({ cls := "com/example/encase/encase/codec/Labels", name := "lowerAscii", desc := "(C)C" } : Jvm.MethodName)).before a0 Z = true := hw _ (List.mem_of_getElem? (i := 82) rfl)
theorem w83 {Z : State} {a0 : Array Value} (hw : ∀ d ∈ tables_1, d.before a0 Z = true) : (Jvm.Cond.code ({ cls := "com/example/encase/encase/codec/Labels", name := "lowerAscii", desc := "(C)C" } : Jvm.MethodName) prog_20_method_13_code (1 : Nat) (Option.some Jvm.ClassFile.FieldType.char)).before a0 Z = true := hw _ (List.mem_of_getElem? (i := 83) rfl)
theorem w84 {Z : State} {a0 : Array Value} (hw : ∀ d ∈ tables_1, d.before a0 Z = true) : (Jvm.Cond.methodLink "com/example/encase/encase/codec/LabelsLowerAsciiPinLaw" (34 : Nat) ({ cls := "java/lang/String", name := "charAt", desc := "(I)C" } : Jvm.MethodName)).before a0 Z = true := hw _ (List.mem_of_getElem? (i := 84) rfl)
theorem w85 {Z : State} {a0 : Array Value} (hw : ∀ d ∈ tables_1, d.before a0 Z = true) : (Jvm.Cond.methodLink "com/example/encase/encase/codec/LabelsLowerAsciiPinLaw" (38 : Nat) ({ cls := "com/example/encase/encase/codec/LabelsLowerAsciiPinLaw", name := "ref", desc := "(C)C" } : Jvm.MethodName)).before a0 Z = true := hw _ (List.mem_of_getElem? (i := 85) rfl)
theorem w86 {Z : State} {a0 : Array Value} (hw : ∀ d ∈ tables_1, d.before a0 Z = true) : (Jvm.Cond.static ({ cls := "com/example/encase/encase/codec/LabelsLowerAsciiPinLaw", name := "ref", desc := "(C)C" } : Jvm.MethodName)).before a0 Z = true := hw _ (List.mem_of_getElem? (i := 86) rfl)
theorem w87 {Z : State} {a0 : Array Value} (hw : ∀ d ∈ tables_1, d.before a0 Z = true) : (Jvm.Cond.code ({ cls := "com/example/encase/encase/codec/LabelsLowerAsciiPinLaw", name := "ref", desc := "(C)C" } : Jvm.MethodName) method_5_code (2 : Nat) (Option.some Jvm.ClassFile.FieldType.char)).before a0 Z = true := hw _ (List.mem_of_getElem? (i := 87) rfl)
theorem w88 {Z : State} {a0 : Array Value} (hw : ∀ d ∈ tables_1, d.before a0 Z = true) : (Jvm.Cond.methodLink "java/lang/StringUTF16" (119 : Nat) ({ cls := "java/lang/StringUTF16", name := "toBytes", desc := "([CII)[B" } : Jvm.MethodName)).before a0 Z = true := hw _ (List.mem_of_getElem? (i := 88) rfl)
theorem w89 {Z : State} {a0 : Array Value} (hw : ∀ d ∈ tables_1, d.before a0 Z = true) : (Jvm.Cond.static ({ cls := "java/lang/StringUTF16", name := "toBytes", desc := "([CII)[B" } : Jvm.MethodName)).before a0 Z = true := hw _ (List.mem_of_getElem? (i := 89) rfl)
theorem w90 {Z : State} {a0 : Array Value} (hw : ∀ d ∈ tables_1, d.before a0 Z = true) : (Jvm.Cond.code ({ cls := "java/lang/StringUTF16", name := "toBytes", desc := "([CII)[B" } : Jvm.MethodName) jdk_52_method_14_code (5 : Nat) (Option.some (Jvm.ClassFile.FieldType.array Jvm.ClassFile.FieldType.byte))).before a0 Z = true := hw _ (List.mem_of_getElem? (i := 90) rfl)
theorem w91 {Z : State} {a0 : Array Value} (hw : ∀ d ∈ tables_1, d.before a0 Z = true) : (Jvm.Cond.methodLink "java/lang/StringUTF16" (107 : Nat) ({ cls := "java/lang/StringUTF16", name := "newBytesFor", desc := "(I)[B" } : Jvm.MethodName)).before a0 Z = true := hw _ (List.mem_of_getElem? (i := 91) rfl)
theorem w92 {Z : State} {a0 : Array Value} (hw : ∀ d ∈ tables_1, d.before a0 Z = true) : (Jvm.Cond.static ({ cls := "java/lang/StringUTF16", name := "newBytesFor", desc := "(I)[B" } : Jvm.MethodName)).before a0 Z = true := hw _ (List.mem_of_getElem? (i := 92) rfl)
theorem w93 {Z : State} {a0 : Array Value} (hw : ∀ d ∈ tables_1, d.before a0 Z = true) : (Jvm.Cond.code ({ cls := "java/lang/StringUTF16", name := "newBytesFor", desc := "(I)[B" } : Jvm.MethodName) jdk_52_method_2_code (1 : Nat) (Option.some (Jvm.ClassFile.FieldType.array Jvm.ClassFile.FieldType.byte))).before a0 Z = true := hw _ (List.mem_of_getElem? (i := 93) rfl)
theorem w94 {Z : State} {a0 : Array Value} (hw : ∀ d ∈ tables_1, d.before a0 Z = true) : (Jvm.Cond.methodLink "java/lang/StringUTF16" (11 : Nat) ({ cls := "java/lang/StringUTF16", name := "newBytesLength", desc := "(I)I" } : Jvm.MethodName)).before a0 Z = true := hw _ (List.mem_of_getElem? (i := 94) rfl)
theorem w95 {Z : State} {a0 : Array Value} (hw : ∀ d ∈ tables_1, d.before a0 Z = true) : (Jvm.Cond.static ({ cls := "java/lang/StringUTF16", name := "newBytesLength", desc := "(I)I" } : Jvm.MethodName)).before a0 Z = true := hw _ (List.mem_of_getElem? (i := 95) rfl)
theorem w96 {Z : State} {a0 : Array Value} (hw : ∀ d ∈ tables_1, d.before a0 Z = true) : (Jvm.Cond.code ({ cls := "java/lang/StringUTF16", name := "newBytesLength", desc := "(I)I" } : Jvm.MethodName) jdk_52_method_3_code (1 : Nat) (Option.some Jvm.ClassFile.FieldType.int)).before a0 Z = true := hw _ (List.mem_of_getElem? (i := 96) rfl)
theorem w97 {Z : State} {a0 : Array Value} (hw : ∀ d ∈ tables_1, d.before a0 Z = true) : (Jvm.Cond.constant "java/lang/StringUTF16" (20 : Nat) (1073741823 : Int32)).before a0 Z = true := hw _ (List.mem_of_getElem? (i := 97) rfl)
theorem w98 {Z : State} {a0 : Array Value} (hw : ∀ d ∈ tables_1, d.before a0 Z = true) : (Jvm.Cond.methodLink "java/lang/StringUTF16" (111 : Nat) ({ cls := "java/lang/StringUTF16", name := "putChar", desc := "([BII)V" } : Jvm.MethodName)).before a0 Z = true := hw _ (List.mem_of_getElem? (i := 98) rfl)
theorem w99 {Z : State} {a0 : Array Value} (hw : ∀ d ∈ tables_1, d.before a0 Z = true) : (Jvm.Cond.static ({ cls := "java/lang/StringUTF16", name := "putChar", desc := "([BII)V" } : Jvm.MethodName)).before a0 Z = true := hw _ (List.mem_of_getElem? (i := 99) rfl)
theorem w100 {Z : State} {a0 : Array Value} (hw : ∀ d ∈ tables_1, d.before a0 Z = true) : (Jvm.Cond.code ({ cls := "java/lang/StringUTF16", name := "putChar", desc := "([BII)V" } : Jvm.MethodName) jdk_52_method_4_code (3 : Nat) (Option.none : Option Jvm.ClassFile.FieldType)).before a0 Z = true := hw _ (List.mem_of_getElem? (i := 100) rfl)
theorem w101 {Z : State} {a0 : Array Value} (hw : ∀ d ∈ tables_1, d.before a0 Z = true) : (Jvm.Cond.fieldLink "java/lang/StringUTF16" (44 : Nat) "java/lang/StringUTF16" "$assertionsDisabled" "Z").before a0 Z = true := hw _ (List.mem_of_getElem? (i := 101) rfl)
theorem w102 {Z : State} {a0 : Array Value} (hw : ∀ d ∈ tables_1, d.before a0 Z = true) : (Jvm.Cond.fieldLink "java/lang/StringUTF16" (59 : Nat) "java/lang/StringUTF16" "HI_BYTE_SHIFT" "I").before a0 Z = true := hw _ (List.mem_of_getElem? (i := 102) rfl)
theorem w103 {Z : State} {a0 : Array Value} (hw : ∀ d ∈ tables_1, d.before a0 Z = true) : (Jvm.Cond.fieldLink "java/lang/StringUTF16" (63 : Nat) "java/lang/StringUTF16" "LO_BYTE_SHIFT" "I").before a0 Z = true := hw _ (List.mem_of_getElem? (i := 103) rfl)
theorem w104 {Z : State} {a0 : Array Value} (hw : ∀ d ∈ tables_1, d.before a0 Z = true) : (Jvm.Cond.methodLink "java/lang/StringUTF16" (71 : Nat) ({ cls := "java/lang/StringUTF16", name := "getChar", desc := "([BI)C" } : Jvm.MethodName)).before a0 Z = true := hw _ (List.mem_of_getElem? (i := 104) rfl)
theorem w105 {Z : State} {a0 : Array Value} (hw : ∀ d ∈ tables_1, d.before a0 Z = true) : (Jvm.Cond.static ({ cls := "java/lang/StringUTF16", name := "getChar", desc := "([BI)C" } : Jvm.MethodName)).before a0 Z = true := hw _ (List.mem_of_getElem? (i := 105) rfl)
theorem w106 {Z : State} {a0 : Array Value} (hw : ∀ d ∈ tables_1, d.before a0 Z = true) : (Jvm.Cond.code ({ cls := "java/lang/StringUTF16", name := "getChar", desc := "([BI)C" } : Jvm.MethodName) jdk_52_method_5_code (2 : Nat) (Option.some Jvm.ClassFile.FieldType.char)).before a0 Z = true := hw _ (List.mem_of_getElem? (i := 106) rfl)
theorem w107 {Z : State} {a0 : Array Value} (hw : ∀ d ∈ tables_1, d.before a0 Z = true) : (Jvm.Cond.methodLink "java/lang/String" (498 : Nat) ({ cls := "java/lang/StringUTF16", name := "charAt", desc := "([BI)C" } : Jvm.MethodName)).before a0 Z = true := hw _ (List.mem_of_getElem? (i := 107) rfl)
theorem w108 {Z : State} {a0 : Array Value} (hw : ∀ d ∈ tables_1, d.before a0 Z = true) : (Jvm.Cond.static ({ cls := "java/lang/StringUTF16", name := "charAt", desc := "([BI)C" } : Jvm.MethodName)).before a0 Z = true := hw _ (List.mem_of_getElem? (i := 108) rfl)
theorem w109 {Z : State} {a0 : Array Value} (hw : ∀ d ∈ tables_1, d.before a0 Z = true) : (Jvm.Cond.code ({ cls := "java/lang/StringUTF16", name := "charAt", desc := "([BI)C" } : Jvm.MethodName) jdk_52_method_83_code (2 : Nat) (Option.some Jvm.ClassFile.FieldType.char)).before a0 Z = true := hw _ (List.mem_of_getElem? (i := 109) rfl)
theorem w110 {Z : State} {a0 : Array Value} (hw : ∀ d ∈ tables_1, d.before a0 Z = true) : (Jvm.Cond.methodLink "java/lang/StringUTF16" (67 : Nat) ({ cls := "java/lang/StringUTF16", name := "checkIndex", desc := "(I[B)V" } : Jvm.MethodName)).before a0 Z = true := hw _ (List.mem_of_getElem? (i := 110) rfl)
theorem w111 {Z : State} {a0 : Array Value} (hw : ∀ d ∈ tables_1, d.before a0 Z = true) : (Jvm.Cond.static ({ cls := "java/lang/StringUTF16", name := "checkIndex", desc := "(I[B)V" } : Jvm.MethodName)).before a0 Z = true := hw _ (List.mem_of_getElem? (i := 111) rfl)
theorem w112 {Z : State} {a0 : Array Value} (hw : ∀ d ∈ tables_1, d.before a0 Z = true) : (Jvm.Cond.code ({ cls := "java/lang/StringUTF16", name := "checkIndex", desc := "(I[B)V" } : Jvm.MethodName) jdk_52_method_91_code (2 : Nat) (Option.none : Option Jvm.ClassFile.FieldType)).before a0 Z = true := hw _ (List.mem_of_getElem? (i := 112) rfl)
theorem w113 {Z : State} {a0 : Array Value} (hw : ∀ d ∈ tables_1, d.before a0 Z = true) : (Jvm.Cond.methodLink "java/lang/StringUTF16" (48 : Nat) ({ cls := "java/lang/StringUTF16", name := "length", desc := "([B)I" } : Jvm.MethodName)).before a0 Z = true := hw _ (List.mem_of_getElem? (i := 113) rfl)
theorem w114 {Z : State} {a0 : Array Value} (hw : ∀ d ∈ tables_1, d.before a0 Z = true) : (Jvm.Cond.static ({ cls := "java/lang/StringUTF16", name := "length", desc := "([B)I" } : Jvm.MethodName)).before a0 Z = true := hw _ (List.mem_of_getElem? (i := 114) rfl)
theorem w115 {Z : State} {a0 : Array Value} (hw : ∀ d ∈ tables_1, d.before a0 Z = true) : (Jvm.Cond.code ({ cls := "java/lang/StringUTF16", name := "length", desc := "([B)I" } : Jvm.MethodName) jdk_52_method_6_code (1 : Nat) (Option.some Jvm.ClassFile.FieldType.int)).before a0 Z = true := hw _ (List.mem_of_getElem? (i := 115) rfl)
theorem w116 {Z : State} {a0 : Array Value} (hw : ∀ d ∈ tables_1, d.before a0 Z = true) : (Jvm.Cond.methodLink "java/lang/StringUTF16" (414 : Nat) ({ cls := "java/lang/String", name := "checkIndex", desc := "(II)V" } : Jvm.MethodName)).before a0 Z = true := hw _ (List.mem_of_getElem? (i := 116) rfl)
theorem own_wS {Z : State} {a0 : Array Value} (hw : ∀ d ∈ tables_1, d.before a0 Z = true) : ∀ a ∈ Bundle.stringAtoms, a.before a0 Z = true := by
  intro a ha
  simp only [Bundle.stringAtoms, List.mem_cons, List.not_mem_nil, or_false] at ha
  rcases ha with rfl | rfl | rfl | rfl | rfl | rfl | rfl
  · exact (w9 hw)
  · exact (w8 hw)
  · exact (w21 hw)
  · exact (w22 hw)
  · exact (w23 hw)
  · exact (w24 hw)
  · exact (w25 hw)
def own_W (Z : State) (h : Heap) (cs : Int32) (fm : Value) : Prop := Sta Z h "java/lang/String" "COMPACT_STRINGS" "Z" (.int cs) ∧ (¬ cs = 0) ∧ Sta Z h "jdk/internal/util/Preconditions" "SIOOBE_FORMATTER" "Ljava/util/function/BiFunction;" fm ∧ fm.isRef = true ∧ Sta Z h "java/lang/StringUTF16" "$assertionsDisabled" "Z" (.int 1) ∧ Sta Z h "java/lang/StringUTF16" "HI_BYTE_SHIFT" "I" (.int 0) ∧ Sta Z h "java/lang/StringUTF16" "LO_BYTE_SHIFT" "I" (.int 8)
theorem own_W.ext {Z : State} {h h' : Heap} {cs : Int32} {fm : Value} (W : own_W Z h cs fm) (E : Ext h h') : own_W Z h' cs fm := ⟨W.1.ext E, W.2.1, W.2.2.1.ext E, W.2.2.2.1, W.2.2.2.2.1.ext E, W.2.2.2.2.2.1.ext E, W.2.2.2.2.2.2.ext E⟩
def own_chr (x : Int32) : Prop := 0 ≤ x.toInt ∧ x.toInt < 65536
def own_lat (x : Int32) : Value := .int (nar .byte x.toInt8.toInt32)
def own_lo (x : Int32) : Value := .int (nar .byte (x >>> ((0 : Int32) &&& 31)).toInt8.toInt32)
def own_hi (x : Int32) : Value := .int (nar .byte (x >>> ((8 : Int32) &&& 31)).toInt8.toInt32)
def own_utf : List Int32 → List Value
  | [] => []
  | u :: r => own_lo u :: own_hi u :: own_utf r
def own_S (us : List Int32) (co : Int32) (bs : List Value) : Prop := (co = 0 ∧ bs = us.map own_lat ∧ ∀ u ∈ us, ¬ 255 < u) ∨ (co = 1 ∧ bs = own_utf us)
theorem own_S.nar {us : List Int32} {co : Int32} {bs : List Value} (h : own_S us co bs) : Jvm.RoadKit.nar .byte co = co := by
  rcases h with ⟨rfl, -⟩ | ⟨rfl, -⟩ <;> decide
def own_T (Z : State) (h : Heap) (a : Addr) (us : List Int32) : Prop := ∃ (vb : Addr) (co : Int32) (bs : List Value), Exa Z h a "java/lang/String" ∧ Fld Z h a "java/lang/String" "value" "[B" (.ref vb) ∧ Fld Z h a "java/lang/String" "coder" "B" (.int co) ∧ oA .byte Z h vb bs ∧ own_S us co bs
theorem own_T.ext {Z : State} {h h' : Heap} {a : Addr} {us : List Int32} (t : own_T Z h a us) (E : Ext h h') : own_T Z h' a us := by
  obtain ⟨vb, co, bs, q1, q2, q3, q4, q5⟩ := t
  exact ⟨vb, co, bs, q1.ext E, q2.ext E, q3.ext E, q4.ext E, q5⟩
theorem own_T.exa {Z : State} {h : Heap} {a : Addr} {us : List Int32} (t : own_T Z h a us) : Exa Z h a "java/lang/String" := by
  obtain ⟨vb, co, bs, q1, -⟩ := t; exact q1
def own_LF (Z : State) (h : Heap) (a b : Addr) : Prop := Exa Z h a "java/lang/String" ∧ Fld Z h a "java/lang/String" "coder" "B" (.int 0) ∧ Fld Z h a "java/lang/String" "value" "[B" (.ref b) ∧ oA .byte Z h b []
theorem own_LF.ext {Z : State} {h h' : Heap} {a b : Addr} (t : own_LF Z h a b) (E : Ext h h') : own_LF Z h' a b := ⟨t.1.ext E, t.2.1.ext E, t.2.2.1.ext E, t.2.2.2.ext E⟩
theorem own_ne0 {Z : State} {h : Heap} {a b : Addr} {ty : FieldType} {C n d : String} {v : Value} (A : oA ty Z h a []) (F : Fld Z h b C n d v) : a ≠ b := by
  rintro rfl
  obtain ⟨-, c, A1, e⟩ := A
  obtain ⟨cell, _, _, _, f, h1, -, -, -, -, -, h2⟩ := F
  cases A1.1.symm.trans h1
  rw [e] at h2; simp at h2
/-- the literal "": not yet there, or there -/
def own_pre (Z : State) (I : Vm → Prop) (h : Heap) : Prop := ((∀ vm, I vm → IB Z vm []) ∧ Ext Z.heap h) ∨ ∃ a b, (∀ vm, I vm → Lit (Z.setVm vm) "java/lang/String" 7 a) ∧ own_LF Z h a b
theorem own_pre.ext {Z : State} {I : Vm → Prop} {h h' : Heap} (p : own_pre Z I h) (E : Ext h h') : own_pre Z I h' := by
  rcases p with ⟨p1, p2⟩ | ⟨a, b, p1, p2⟩
  · exact Or.inl ⟨p1, o_etrans p2 E⟩
  · exact Or.inr ⟨a, b, p1, p2.ext E⟩
theorem own_utf_len (us : List Int32) : (own_utf us).length = 2 * us.length := by
  induction us with
  | nil => rfl
  | cons u r ih => simp only [own_utf, List.length_cons, ih]; omega
theorem own_utf_get {us : List Int32} {j : Nat} {x : Int32} (h : us[j]? = some x) : (own_utf us)[2 * j]? = some (own_lo x) ∧ (own_utf us)[2 * j + 1]? = some (own_hi x) := by
  induction us generalizing j with
  | nil => simp at h
  | cons u r ih =>
    cases j with
    | zero => simp at h; subst h; exact ⟨rfl, rfl⟩
    | succ j =>
      have q := ih (j := j) (by simpa using h)
      have e : 2 * (j + 1) = 2 * j + 1 + 1 := by omega
      rw [e]; exact ⟨by simpa [own_utf] using q.1, by simpa [own_utf] using q.2⟩
theorem own_i2c (x : Int32) : own_chr x.toUInt32.toUInt16.toUInt32.toInt32 := by
  have h := c_i2c x; simp only [own_chr]; omega
theorem own_narc {x : Int32} (h : own_chr x) : nar .char x = x := by
  show x.toUInt32.toUInt16.toUInt32.toInt32 = x
  have q := c_i2c x; have h1 := h.1; have h2 := h.2
  rw [n_eq]; omega
theorem own_shr0 (x : Int32) : x >>> ((0 : Int32) &&& 31) = x := by
  have e := c_ishr x 0 0 (by decide)
  rw [n_eq, e]; omega
theorem own_shl0 (x : Int32) : x <<< ((0 : Int32) &&& 31) = x := by
  have e : ((0 : Int32) &&& 31) = 0 := by decide
  rw [e]; simp
theorem own_nb (x : Int32) : (nar .byte x.toInt8.toInt32).toInt % 256 = x.toInt % 256 := by
  show (x.toInt8.toInt32.toInt8.toInt32).toInt % 256 = _
  have h1 := c_i2b x.toInt8.toInt32; have h2 := c_i2b x
  omega
theorem own_latx {x : Int32} (h : own_chr x) (h2 : ¬ 255 < x) : nar .char (nar .char ((nar .byte x.toInt8.toInt32 &&& 255).toUInt32.toUInt16.toUInt32.toInt32)) = x := by
  have a1 := own_i2c (nar .byte x.toInt8.toInt32 &&& 255)
  rw [own_narc a1, own_narc a1]
  have e255 : (255 : Int32).toInt = 255 := rfl
  have b1 := own_nb x
  have b3 := c_mask (nar .byte x.toInt8.toInt32) 255 8 (by decide) (by decide); have b4 := c_i2c (nar .byte x.toInt8.toInt32 &&& 255)
  rw [n_lt, e255] at h2; have h3 := h.1
  rw [n_eq]
  generalize nar .byte x.toInt8.toInt32 = y at *
  generalize (y &&& 255) = w at *
  omega
def own_bf (b x : Int32) : Int32 := (b <<< ((8 : Int32) &&& 31)) ||| (x &&& (255 : Int32))
theorem own_bf_m (b x : Int32) : (own_bf b x).toInt % 65536 = (b.toInt % 256) * 256 + x.toInt % 256 := by
  have h1 := c_ishl b 8 8 (by decide)
  have h2 := c_mask x 255 8 (by decide) (by decide)
  have h3 := c_or (b <<< ((8 : Int32) &&& 31)) (x &&& 255) 8 (by decide) 256 (by decide)
  simp only [own_bf]
  generalize b <<< ((8 : Int32) &&& 31) = B at *
  generalize x &&& (255 : Int32) = X at *
  omega
theorem own_gcx {x : Int32} (h : own_chr x) : nar .char (((((nar .byte (x >>> ((0 : Int32) &&& 31)).toInt8.toInt32) &&& (255 : Int32)) <<< ((0 : Int32) &&& 31)) ||| (((nar .byte (x >>> ((8 : Int32) &&& 31)).toInt8.toInt32) &&& (255 : Int32)) <<< ((8 : Int32) &&& 31))).toUInt32.toUInt16.toUInt32.toInt32) = x := by
  rw [own_shl0, own_shr0, Int32.or_comm]
  rw [own_narc (own_i2c _)]
  have e1 := own_bf_m ((nar .byte (x >>> ((8 : Int32) &&& 31)).toInt8.toInt32) &&& (255 : Int32)) (nar .byte x.toInt8.toInt32)
  have e2 := c_i2c (own_bf ((nar .byte (x >>> ((8 : Int32) &&& 31)).toInt8.toInt32) &&& (255 : Int32)) (nar .byte x.toInt8.toInt32))
  have e3 := c_mask (nar .byte (x >>> ((8 : Int32) &&& 31)).toInt8.toInt32) 255 8 (by decide) (by decide)
  have e4 := own_nb (x >>> ((8 : Int32) &&& 31)); have e6 := c_ishr x 8 8 (by decide); have e7 := own_nb x
  have h1 := h.1; have h2 := h.2
  rw [n_eq]
  change (own_bf _ _).toUInt32.toUInt16.toUInt32.toInt32.toInt = _
  generalize x >>> ((8 : Int32) &&& 31) = x8 at *
  generalize nar .byte x8.toInt8.toInt32 = y8 at *
  generalize nar .byte x.toInt8.toInt32 = y0 at *
  generalize (y8 &&& (255 : Int32)) = z8 at *
  generalize own_bf z8 y0 = w at *
  omega
def own_low (x : Int32) : Int32 := if ¬ x < 65 ∧ ¬ 90 < x then (x + 32).toUInt32.toUInt16.toUInt32.toInt32 else x
theorem own_low_t {x : Int32} (h1 : ¬ x < 65) (h2 : ¬ 90 < x) : nar .char ((x + 32).toUInt32.toUInt16.toUInt32.toInt32) = own_low x := by
  rw [own_low, if_pos ⟨h1, h2⟩]; exact own_narc (own_i2c _)
theorem own_low_l {x : Int32} (h : own_chr x) (h1 : x < 65) : nar .char x = own_low x := by
  rw [own_low, if_neg (fun q => q.1 h1)]; exact own_narc h
theorem own_low_r {x : Int32} (h : own_chr x) (h1 : 90 < x) : nar .char x = own_low x := by
  rw [own_low, if_neg (fun q => q.2 h1)]; exact own_narc h
theorem own_low_c {x : Int32} (h : own_chr x) : own_chr (own_low x) := by
  rw [own_low]; split
  · exact own_i2c _
  · exact h
theorem own_l0 (us : List Int32) : (us.map own_lat).length.toInt32 >>> ((0 : Int32) &&& 31) = us.length.toInt32 := by rw [own_shr0, List.length_map]
theorem own_l1 {us : List Int32} (h : us.length ≤ 4) : (own_utf us).length.toInt32 >>> ((1 : Int32) &&& 31) = us.length.toInt32 := by
  rw [own_utf_len]
  generalize us.length = n at *
  have c : n = 0 ∨ n = 1 ∨ n = 2 ∨ n = 3 ∨ n = 4 := by omega
  rcases c with rfl | rfl | rfl | rfl | rfl <;> decide
theorem own_cfa {us : List Int32} {co : Int32} {bs : List Value} (h : own_S us co bs) (h1 : 1 ≤ us.length) (h4 : us.length ≤ 4) {z : Int32} (hz : z = us.length.toInt32) : nar .byte ((XT.ushr (z - bs.length.toInt32) 31).toInt8.toInt32) = co := by
  subst hz
  have hl : (co = 0 ∧ bs.length = us.length) ∨ (co = 1 ∧ bs.length = 2 * us.length) := by
    rcases h with ⟨rfl, rfl, -⟩ | ⟨rfl, rfl⟩
    · exact Or.inl ⟨rfl, by simp⟩
    · exact Or.inr ⟨rfl, own_utf_len us⟩
  generalize us.length = n at *
  have c : n = 1 ∨ n = 2 ∨ n = 3 ∨ n = 4 := by omega
  rcases hl with ⟨rfl, e⟩ | ⟨rfl, e⟩ <;> rw [e] <;> rcases c with rfl | rfl | rfl | rfl <;> decide
theorem own_cix {n : Nat} {p z : Int32} {j : Nat} (hn : n ≤ 4) (hj : p.toInt = (j : Int)) (l : j < n) (hz : z = n.toInt32) : ¬ p < 0 ∧ p < z := by
  have e : (n.toInt32).toInt = n := o_ofNat (by omega)
  have e0 : (0 : Int32).toInt = 0 := rfl
  rw [n_lt, n_lt, hz, e, e0]; omega
theorem own_pk {p k : Int32} {j kn : Nat} (h : p.toInt = (j : Int)) (hj : j ≤ 4) (hk : k.toInt = (kn : Int)) (h4 : kn ≤ 4) : (p + k).toInt = ((j + kn : Nat) : Int) := by
  rw [Int32.toInt_add, h, hk]; rw [Int.bmod_eq_of_le] <;> omega
theorem own_2k {p : Int32} {j : Nat} (h : p.toInt = (j : Int)) (hj : j ≤ 4) : (p <<< ((1 : Int32) &&& 31)).toInt = ((2 * j : Nat) : Int) := by
  have e := c_ishl p 1 1 (by decide)
  have h3 := Int32.toInt_lt (p <<< ((1 : Int32) &&& 31)); have h4 := Int32.le_toInt (p <<< ((1 : Int32) &&& 31))
  omega
theorem own_2k1 {p : Int32} {j : Nat} (h : p.toInt = ((2 * j : Nat) : Int)) (hj : j ≤ 4) : (p + 1).toInt = ((2 * j + 1 : Nat) : Int) := by
  have e1 : (1 : Int32).toInt = 1 := rfl
  rw [Int32.toInt_add, h, e1]; rw [Int.bmod_eq_of_le] <;> omega
theorem own_kn {k z : Int32} {j n : Nat} (h : k.toInt = (j : Int)) (hj : j < n) (hz : z.toInt = (n : Int)) : ¬ k = z := by
  rw [n_eq]; omega
theorem d7_0 : decode jdk_42_method_152_code 0 = .ok (.getstatic 38, 3) := by decide +kernel
theorem d7_3 : decode jdk_42_method_152_code 3 = .ok (.ifCond .eq 10, 3) := by decide +kernel
theorem d7_6 : decode jdk_42_method_152_code 6 = .ok (.aload_n 0, 1) := by decide +kernel
theorem d7_7 : decode jdk_42_method_152_code 7 = .ok (.getfield 15, 3) := by decide +kernel
theorem d7_10 : decode jdk_42_method_152_code 10 = .ok (.goto 4, 3) := by decide +kernel
theorem d7_14 : decode jdk_42_method_152_code 14 = .ok (.ireturn, 1) := by decide +kernel
theorem pn7 : plainFor (⟨"java/lang/String", "coder", "()B"⟩ : MethodName) = true := plainFor_of_name (by first | (simp [plainName, overriddenIn]; done) | decide +kernel)
theorem pd7 : parseMethodDescriptor "()B" = some ⟨[], some .byte⟩ := by decide +kernel
set_option maxRecDepth 65536 in
set_option maxHeartbeats 40000000 in
theorem rm7_0 (l : Launch) (Z : State) (a0 : Array Value) (hw : ∀ d ∈ tables_1, d.before a0 Z = true) (a1 : Addr) (I : Vm → Prop) (hst : oSt I) (cs : Int32) (fm : Value) (h0 : Heap) (n0 : Nat) (Z0 : n0 ≤ h0.size) (F_coder_a1 : Fld Z h0 a1 "java/lang/String" "coder" "B" (.int (0 : Int32))) (WW : own_W Z h0 cs fm) :
    oC l Z n0 I (fun _ => I) (⟨"java/lang/String", "coder", "()B"⟩ : MethodName) jdk_42_method_152_code 1 (some .byte) ({ frames := 0, cells := 0, slots := 0, locals := 0 } : Room) 0 0 #[(.ref a1)] h0 (fun v h => v = some (.int 0) ∧ h0 = h) := by
  refine oC.of (b := false) (L := #[.val (.ref a1)]) pn7 Z0 (fun q => (nomatch q)) (fun m => by first | (simp [entryFrame, mkF, argsToLocals, Value.category]; done) | rfl) ?_
  intro p e s m below meth c T H
  refine o_getS H (host := "") (Or.inl (w42 hw)) WW.1 d7_0 rfl ?_
  intro T1 H2
  refine o_if_f H2 d7_3 (XT.i0_eq_f WW.2.1) rfl ?_
  refine o_aloadN H2 rfl rfl d7_6 rfl ?_
  refine o_getF H2 (host := "") (Or.inl (w27 hw)) F_coder_a1 d7_7 rfl ?_
  intro T3 H4
  refine o_goto H4 d7_10 (pt := 14) (by decide) (by decide) ?_
  exact o_nreturn H4 .byte rfl (by simp) d7_14 hst (fun _ q => q) (by decide) (by decide) ⟨rfl, rfl⟩
theorem d13_0 : decode jdk_42_method_154_code 0 = .ok (.getstatic 38, 3) := by decide +kernel
theorem d13_3 : decode jdk_42_method_154_code 3 = .ok (.ifCond .eq 14, 3) := by decide +kernel
theorem d13_6 : decode jdk_42_method_154_code 6 = .ok (.aload_n 0, 1) := by decide +kernel
theorem d13_7 : decode jdk_42_method_154_code 7 = .ok (.getfield 15, 3) := by decide +kernel
theorem d13_10 : decode jdk_42_method_154_code 10 = .ok (.ifCond .ne 7, 3) := by decide +kernel
theorem d13_13 : decode jdk_42_method_154_code 13 = .ok (.iconst 1, 1) := by decide +kernel
theorem d13_14 : decode jdk_42_method_154_code 14 = .ok (.goto 4, 3) := by decide +kernel
theorem d13_17 : decode jdk_42_method_154_code 17 = .ok (.iconst 0, 1) := by decide +kernel
theorem d13_18 : decode jdk_42_method_154_code 18 = .ok (.ireturn, 1) := by decide +kernel
theorem pn13 : plainFor (⟨"java/lang/String", "isLatin1", "()Z"⟩ : MethodName) = true := plainFor_of_name (by first | (simp [plainName, overriddenIn]; done) | decide +kernel)
theorem pd13 : parseMethodDescriptor "()Z" = some ⟨[], some .boolean⟩ := by decide +kernel
set_option maxRecDepth 65536 in
set_option maxHeartbeats 40000000 in
theorem rm13_0 (l : Launch) (Z : State) (a0 : Array Value) (hw : ∀ d ∈ tables_1, d.before a0 Z = true) (a1 : Addr) (I : Vm → Prop) (hst : oSt I) (cs : Int32) (fm : Value) (h0 : Heap) (n0 : Nat) (Z0 : n0 ≤ h0.size) (F_coder_a1 : Fld Z h0 a1 "java/lang/String" "coder" "B" (.int (0 : Int32))) (WW : own_W Z h0 cs fm) :
    oC l Z n0 I (fun _ => I) (⟨"java/lang/String", "isLatin1", "()Z"⟩ : MethodName) jdk_42_method_154_code 1 (some .boolean) ({ frames := 0, cells := 0, slots := 0, locals := 0 } : Room) 0 0 #[(.ref a1)] h0 (fun v h => v = some (.int 1) ∧ h0 = h) := by
  refine oC.of (b := false) (L := #[.val (.ref a1)]) pn13 Z0 (fun q => (nomatch q)) (fun m => by first | (simp [entryFrame, mkF, argsToLocals, Value.category]; done) | rfl) ?_
  intro p e s m below meth c T H
  refine o_getS H (host := "") (Or.inl (w42 hw)) WW.1 d13_0 rfl ?_
  intro T1 H2
  refine o_if_f H2 d13_3 (XT.i0_eq_f WW.2.1) rfl ?_
  refine o_aloadN H2 rfl rfl d13_6 rfl ?_
  refine o_getF H2 (host := "") (Or.inl (w27 hw)) F_coder_a1 d13_7 rfl ?_
  intro T3 H4
  refine o_if_f H4 d13_10 (by decide) rfl ?_
  refine o_iconst H4 (1 : Int32) rfl d13_13 rfl ?_
  refine o_goto H4 d13_14 (pt := 18) (by decide) (by decide) ?_
  exact o_nreturn H4 .boolean rfl (by simp) d13_18 hst (fun _ q => q) (by decide) (by decide) ⟨rfl, rfl⟩
theorem d6_0 : decode jdk_42_method_54_code 0 = .ok (.aload_n 0, 1) := by decide +kernel
theorem d6_1 : decode jdk_42_method_54_code 1 = .ok (.getfield 9, 3) := by decide +kernel
theorem d6_4 : decode jdk_42_method_54_code 4 = .ok (.arraylength, 1) := by decide +kernel
theorem d6_5 : decode jdk_42_method_54_code 5 = .ok (.aload_n 0, 1) := by decide +kernel
theorem d6_6 : decode jdk_42_method_54_code 6 = .ok (.invokevirtual 335, 3) := by decide +kernel
theorem d6_9 : decode jdk_42_method_54_code 9 = .ok (.ishr, 1) := by decide +kernel
theorem d6_10 : decode jdk_42_method_54_code 10 = .ok (.ireturn, 1) := by decide +kernel
theorem pn6 : plainFor (⟨"java/lang/String", "length", "()I"⟩ : MethodName) = true := plainFor_of_name (by first | (simp [plainName, overriddenIn]; done) | decide +kernel)
theorem pd6 : parseMethodDescriptor "()I" = some ⟨[], some .int⟩ := by decide +kernel
set_option maxRecDepth 65536 in
set_option maxHeartbeats 40000000 in
theorem rm6_0 (l : Launch) (Z : State) (a0 : Array Value) (hw : ∀ d ∈ tables_1, d.before a0 Z = true) (a1 : Addr) (I : Vm → Prop) (hst : oSt I) (vb : Addr) (bs : List Value) (cs : Int32) (fm : Value) (h0 : Heap) (n0 : Nat) (Z0 : n0 ≤ h0.size) (E_a1 : Exa Z h0 a1 "java/lang/String") (F_value_a1 : Fld Z h0 a1 "java/lang/String" "value" "[B" (.ref vb)) (F_coder_a1 : Fld Z h0 a1 "java/lang/String" "coder" "B" (.int (0 : Int32))) (AV : oA .byte Z h0 vb bs) (WW : own_W Z h0 cs fm) :
    oC l Z n0 I (fun _ => I) (⟨"java/lang/String", "length", "()I"⟩ : MethodName) jdk_42_method_54_code 1 (some .int) ({ frames := 1, cells := 0, slots := 0, locals := 14 } : Room) 0 0 #[(.ref a1)] h0 (fun v h => v = some (.int (bs.length.toInt32 >>> ((0 : Int32) &&& 31))) ∧ h0 = h) := by
  refine oC.of (b := false) (L := #[.val (.ref a1)]) pn6 Z0 (fun q => (nomatch q)) (fun m => by first | (simp [entryFrame, mkF, argsToLocals, Value.category]; done) | rfl) ?_
  intro p e s m below meth c T H
  refine o_aloadN H rfl rfl d6_0 rfl ?_
  refine o_getF H (host := "") (Or.inl (w26 hw)) F_value_a1 d6_1 rfl ?_
  intro T1 H2
  refine o_arraylength H2 (bs.length.toInt32) AV rfl d6_4 rfl ?_
  refine o_aloadN H2 rfl rfl d6_5 rfl ?_
  refine o_virtual H2 [] [(.int (bs.length.toInt32))] (rm7_0 l Z a0 hw a1 I hst cs fm h0 n0 H2.le F_coder_a1 WW) E_a1 (w37 hw) (w38 hw) (o_nf (w40 hw)) (w40 hw) (w39 hw) (w9 hw) (w41 hw) (by decide) (lenOf pd7 rfl) rfl rfl (by decide) (Nat.le_of_ble_eq_true rfl) (by decide) (by decide) d6_6 rfl (fun _ q => q) hst ?_
  intro T3 v3 h3 H3 q3
  obtain ⟨rfl, rfl⟩ := q3
  show oG p e below s n0 _ _ _ _ (T3.setTop (mkF m 9 #[.val (.ref a1)] [(.int (0 : Int32)), (.int (bs.length.toInt32))]))
  refine o_ishr H3 d6_9 rfl ?_
  exact o_ireturn H3 rfl d6_10 hst (fun _ q => q) (by decide) (by decide) ⟨rfl, rfl⟩
set_option maxRecDepth 65536 in
set_option maxHeartbeats 40000000 in
theorem rm7_1 (l : Launch) (Z : State) (a0 : Array Value) (hw : ∀ d ∈ tables_1, d.before a0 Z = true) (a1 : Addr) (I : Vm → Prop) (hst : oSt I) (cs : Int32) (fm : Value) (h0 : Heap) (n0 : Nat) (Z0 : n0 ≤ h0.size) (F_coder_a1 : Fld Z h0 a1 "java/lang/String" "coder" "B" (.int (1 : Int32))) (WW : own_W Z h0 cs fm) :
    oC l Z n0 I (fun _ => I) (⟨"java/lang/String", "coder", "()B"⟩ : MethodName) jdk_42_method_152_code 1 (some .byte) ({ frames := 0, cells := 0, slots := 0, locals := 0 } : Room) 0 0 #[(.ref a1)] h0 (fun v h => v = some (.int 1) ∧ h0 = h) := by
  refine oC.of (b := false) (L := #[.val (.ref a1)]) pn7 Z0 (fun q => (nomatch q)) (fun m => by first | (simp [entryFrame, mkF, argsToLocals, Value.category]; done) | rfl) ?_
  intro p e s m below meth c T H
  refine o_getS H (host := "") (Or.inl (w42 hw)) WW.1 d7_0 rfl ?_
  intro T1 H2
  refine o_if_f H2 d7_3 (XT.i0_eq_f WW.2.1) rfl ?_
  refine o_aloadN H2 rfl rfl d7_6 rfl ?_
  refine o_getF H2 (host := "") (Or.inl (w27 hw)) F_coder_a1 d7_7 rfl ?_
  intro T3 H4
  refine o_goto H4 d7_10 (pt := 14) (by decide) (by decide) ?_
  exact o_nreturn H4 .byte rfl (by simp) d7_14 hst (fun _ q => q) (by decide) (by decide) ⟨rfl, rfl⟩
set_option maxRecDepth 65536 in
set_option maxHeartbeats 40000000 in
theorem rm13_1 (l : Launch) (Z : State) (a0 : Array Value) (hw : ∀ d ∈ tables_1, d.before a0 Z = true) (a1 : Addr) (I : Vm → Prop) (hst : oSt I) (cs : Int32) (fm : Value) (h0 : Heap) (n0 : Nat) (Z0 : n0 ≤ h0.size) (F_coder_a1 : Fld Z h0 a1 "java/lang/String" "coder" "B" (.int (1 : Int32))) (WW : own_W Z h0 cs fm) :
    oC l Z n0 I (fun _ => I) (⟨"java/lang/String", "isLatin1", "()Z"⟩ : MethodName) jdk_42_method_154_code 1 (some .boolean) ({ frames := 0, cells := 0, slots := 0, locals := 0 } : Room) 0 0 #[(.ref a1)] h0 (fun v h => v = some (.int 0) ∧ h0 = h) := by
  refine oC.of (b := false) (L := #[.val (.ref a1)]) pn13 Z0 (fun q => (nomatch q)) (fun m => by first | (simp [entryFrame, mkF, argsToLocals, Value.category]; done) | rfl) ?_
  intro p e s m below meth c T H
  refine o_getS H (host := "") (Or.inl (w42 hw)) WW.1 d13_0 rfl ?_
  intro T1 H2
  refine o_if_f H2 d13_3 (XT.i0_eq_f WW.2.1) rfl ?_
  refine o_aloadN H2 rfl rfl d13_6 rfl ?_
  refine o_getF H2 (host := "") (Or.inl (w27 hw)) F_coder_a1 d13_7 rfl ?_
  intro T3 H4
  refine o_if_t H4 d13_10 (by decide) (pt := 17) (by decide) (by decide) ?_
  refine o_iconst H4 (0 : Int32) rfl d13_17 rfl ?_
  exact o_nreturn H4 .boolean rfl (by simp) d13_18 hst (fun _ q => q) (by decide) (by decide) ⟨rfl, rfl⟩
set_option maxRecDepth 65536 in
set_option maxHeartbeats 40000000 in
theorem rm6_1 (l : Launch) (Z : State) (a0 : Array Value) (hw : ∀ d ∈ tables_1, d.before a0 Z = true) (a1 : Addr) (I : Vm → Prop) (hst : oSt I) (vb : Addr) (bs : List Value) (cs : Int32) (fm : Value) (h0 : Heap) (n0 : Nat) (Z0 : n0 ≤ h0.size) (E_a1 : Exa Z h0 a1 "java/lang/String") (F_value_a1 : Fld Z h0 a1 "java/lang/String" "value" "[B" (.ref vb)) (F_coder_a1 : Fld Z h0 a1 "java/lang/String" "coder" "B" (.int (1 : Int32))) (AV : oA .byte Z h0 vb bs) (WW : own_W Z h0 cs fm) :
    oC l Z n0 I (fun _ => I) (⟨"java/lang/String", "length", "()I"⟩ : MethodName) jdk_42_method_54_code 1 (some .int) ({ frames := 1, cells := 0, slots := 0, locals := 14 } : Room) 0 0 #[(.ref a1)] h0 (fun v h => v = some (.int (bs.length.toInt32 >>> ((1 : Int32) &&& 31))) ∧ h0 = h) := by
  refine oC.of (b := false) (L := #[.val (.ref a1)]) pn6 Z0 (fun q => (nomatch q)) (fun m => by first | (simp [entryFrame, mkF, argsToLocals, Value.category]; done) | rfl) ?_
  intro p e s m below meth c T H
  refine o_aloadN H rfl rfl d6_0 rfl ?_
  refine o_getF H (host := "") (Or.inl (w26 hw)) F_value_a1 d6_1 rfl ?_
  intro T1 H2
  refine o_arraylength H2 (bs.length.toInt32) AV rfl d6_4 rfl ?_
  refine o_aloadN H2 rfl rfl d6_5 rfl ?_
  refine o_virtual H2 [] [(.int (bs.length.toInt32))] (rm7_1 l Z a0 hw a1 I hst cs fm h0 n0 H2.le F_coder_a1 WW) E_a1 (w37 hw) (w38 hw) (o_nf (w40 hw)) (w40 hw) (w39 hw) (w9 hw) (w41 hw) (by decide) (lenOf pd7 rfl) rfl rfl (by decide) (Nat.le_of_ble_eq_true rfl) (by decide) (by decide) d6_6 rfl (fun _ q => q) hst ?_
  intro T3 v3 h3 H3 q3
  obtain ⟨rfl, rfl⟩ := q3
  show oG p e below s n0 _ _ _ _ (T3.setTop (mkF m 9 #[.val (.ref a1)] [(.int (1 : Int32)), (.int (bs.length.toInt32))]))
  refine o_ishr H3 d6_9 rfl ?_
  exact o_ireturn H3 rfl d6_10 hst (fun _ q => q) (by decide) (by decide) ⟨rfl, rfl⟩
theorem rmLen (l : Launch) (Z : State) (a0 : Array Value) (hw : ∀ d ∈ tables_1, d.before a0 Z = true) (a1 : Addr) (I : Vm → Prop) (hst : oSt I) (us : List Int32) (cs : Int32) (fm : Value) (h0 : Heap) (n0 : Nat) (Z0 : n0 ≤ h0.size) (WW : own_W Z h0 cs fm) (TS : own_T Z h0 a1 us) (hu : us.length ≤ 4) :
    oC l Z n0 I (fun _ => I) (⟨"java/lang/String", "length", "()I"⟩ : MethodName) jdk_42_method_54_code 1 (some .int) ({ frames := 1, cells := 0, slots := 0, locals := 14 } : Room) 0 0 #[(.ref a1)] h0 (fun v h => v = some (.int us.length.toInt32) ∧ h0 = h) := by
  obtain ⟨vb, co, bs, q1, q2, q3, q4, q5⟩ := TS
  rcases q5 with ⟨rfl, rfl, q6⟩ | ⟨rfl, rfl⟩
  · exact (rm6_0 l Z a0 hw a1 I hst vb _ cs fm h0 n0 Z0 q1 q2 q3 q4 WW).mono (fun v h q => ⟨q.1.trans (by rw [own_l0]), q.2⟩)
  · exact (rm6_1 l Z a0 hw a1 I hst vb _ cs fm h0 n0 Z0 q1 q2 q3 q4 WW).mono (fun v h q => ⟨q.1.trans (by rw [own_l1 hu]), q.2⟩)
theorem d16_0 : decode jdk_41_method_11_code 0 = .ok (.iload_n 0, 1) := by decide +kernel
theorem d16_1 : decode jdk_41_method_11_code 1 = .ok (.ifCond .lt 8, 3) := by decide +kernel
theorem d16_4 : decode jdk_41_method_11_code 4 = .ok (.iload_n 0, 1) := by decide +kernel
theorem d16_5 : decode jdk_41_method_11_code 5 = .ok (.iload_n 1, 1) := by decide +kernel
theorem d16_6 : decode jdk_41_method_11_code 6 = .ok (.if_icmp .lt 10, 3) := by decide +kernel
theorem d16_16 : decode jdk_41_method_11_code 16 = .ok (.iload_n 0, 1) := by decide +kernel
theorem d16_17 : decode jdk_41_method_11_code 17 = .ok (.ireturn, 1) := by decide +kernel
theorem pn16 : plainFor (⟨"jdk/internal/util/Preconditions", "checkIndex", "(IILjava/util/function/BiFunction;)I"⟩ : MethodName) = true := plainFor_of_name (by first | (simp [plainName, overriddenIn]; done) | decide +kernel)
theorem pd16 : parseMethodDescriptor "(IILjava/util/function/BiFunction;)I" = some ⟨[.int, .int, (.object "java/util/function/BiFunction")], some .int⟩ := by decide +kernel
set_option maxRecDepth 65536 in
set_option maxHeartbeats 40000000 in
theorem rm16 (l : Launch) (Z : State) (a0 : Array Value) (hw : ∀ d ∈ tables_1, d.before a0 Z = true) (p1 : Int32) (p2 : Int32) (fm : Value) (I : Vm → Prop) (hst : oSt I)  (h0 : Heap) (n0 : Nat) (Z0 : n0 ≤ h0.size) (hx1 : ¬ p1 < 0) (hx2 : p1 < p2) (hfm : fm.isRef = true) :
    oC l Z n0 I (fun _ => I) (⟨"jdk/internal/util/Preconditions", "checkIndex", "(IILjava/util/function/BiFunction;)I"⟩ : MethodName) jdk_41_method_11_code 3 (some .int) ({ frames := 0, cells := 0, slots := 0, locals := 0 } : Room) 0 0 #[(.int p1), (.int p2), fm] h0 (fun v h => v = some (.int p1) ∧ h0 = h) := by
  refine oC.of (b := false) (L := #[.val (.int p1), .val (.int p2), .val fm]) pn16 Z0 (fun q => (nomatch q)) (fun m => by first | (simp [entryFrame, mkF, argsToLocals, Value.category]; done) | rfl | (cases fm <;> first | rfl | (simp [Value.isRef] at hfm))) ?_
  intro p e s m below meth c T H
  refine o_iloadN H rfl d16_0 rfl ?_
  refine o_if_f H d16_1 (XT.i0_lt_f hx1) rfl ?_
  refine o_iloadN H rfl d16_4 rfl ?_
  refine o_iloadN H rfl d16_5 rfl ?_
  refine o_icmp_t H d16_6 (XT.ii_lt_t hx2) (pt := 16) (by decide) (by decide) ?_
  refine o_iloadN H rfl d16_16 rfl ?_
  exact o_ireturn H rfl d16_17 hst (fun _ q => q) (by decide) (by decide) ⟨rfl, rfl⟩
theorem d15_0 : decode jdk_42_method_155_code 0 = .ok (.iload_n 0, 1) := by decide +kernel
theorem d15_1 : decode jdk_42_method_155_code 1 = .ok (.iload_n 1, 1) := by decide +kernel
theorem d15_2 : decode jdk_42_method_155_code 2 = .ok (.getstatic 1053, 3) := by decide +kernel
theorem d15_5 : decode jdk_42_method_155_code 5 = .ok (.invokestatic 1059, 3) := by decide +kernel
theorem d15_8 : decode jdk_42_method_155_code 8 = .ok (.pop, 1) := by decide +kernel
theorem d15_9 : decode jdk_42_method_155_code 9 = .ok (.return_, 1) := by decide +kernel
theorem pn15 : plainFor (⟨"java/lang/String", "checkIndex", "(II)V"⟩ : MethodName) = true := plainFor_of_name (by first | (simp [plainName, overriddenIn]; done) | decide +kernel)
theorem pd15 : parseMethodDescriptor "(II)V" = some ⟨[.int, .int], none⟩ := by decide +kernel
set_option maxRecDepth 65536 in
set_option maxHeartbeats 40000000 in
theorem rm15 (l : Launch) (Z : State) (a0 : Array Value) (hw : ∀ d ∈ tables_1, d.before a0 Z = true) (p1 : Int32) (p2 : Int32) (I : Vm → Prop) (hst : oSt I) (cs : Int32) (fm : Value) (h0 : Heap) (n0 : Nat) (Z0 : n0 ≤ h0.size) (hx1 : ¬ p1 < 0) (hx2 : p1 < p2) (WW : own_W Z h0 cs fm) :
    oC l Z n0 I (fun _ => I) (⟨"java/lang/String", "checkIndex", "(II)V"⟩ : MethodName) jdk_42_method_155_code 2 none ({ frames := 1, cells := 0, slots := 0, locals := 16 } : Room) 0 0 #[(.int p1), (.int p2)] h0 (fun v h => v = none ∧ h0 = h) := by
  refine oC.of (b := false) (L := #[.val (.int p1), .val (.int p2)]) pn15 Z0 (fun q => (nomatch q)) (fun m => by first | (simp [entryFrame, mkF, argsToLocals, Value.category]; done) | rfl) ?_
  intro p e s m below meth c T H
  refine o_iloadN H rfl d15_0 rfl ?_
  refine o_iloadN H rfl d15_1 rfl ?_
  refine o_getS H (host := "") (Or.inl (w76 hw)) WW.2.2.1 d15_2 rfl ?_
  intro T1 H2
  refine o_static H2 [(.int p1), (.int p2), fm] [] (rm16 l Z a0 hw p1 p2 fm I hst  h0 n0 H2.le hx1 hx2 WW.2.2.2.1) (w78 hw) (w79 hw) (w77 hw) (w80 hw) (by decide) (lenOf pd16 rfl) rfl rfl (by decide) (Nat.le_of_ble_eq_true rfl) (by decide) (by decide) d15_5 rfl (fun _ q => q) hst ?_
  intro T3 v3 h3 H3 q3
  obtain ⟨rfl, rfl⟩ := q3
  show oG p e below s n0 _ _ _ _ (T3.setTop (mkF m 8 #[.val (.int p1), .val (.int p2)] [(.int p1)]))
  refine o_pop H3 rfl d15_8 rfl ?_
  exact o_return H3 rfl d15_9 hst (fun _ q => q) (by decide) (by decide) ⟨rfl, rfl⟩
theorem d14_0 : decode jdk_43_method_2_code 0 = .ok (.iload_n 1, 1) := by decide +kernel
theorem d14_1 : decode jdk_43_method_2_code 1 = .ok (.aload_n 0, 1) := by decide +kernel
theorem d14_2 : decode jdk_43_method_2_code 2 = .ok (.arraylength, 1) := by decide +kernel
theorem d14_3 : decode jdk_43_method_2_code 3 = .ok (.invokestatic 9, 3) := by decide +kernel
theorem d14_6 : decode jdk_43_method_2_code 6 = .ok (.aload_n 0, 1) := by decide +kernel
theorem d14_7 : decode jdk_43_method_2_code 7 = .ok (.iload_n 1, 1) := by decide +kernel
theorem d14_8 : decode jdk_43_method_2_code 8 = .ok (.baload, 1) := by decide +kernel
theorem d14_9 : decode jdk_43_method_2_code 9 = .ok (.sipush 255, 3) := by decide +kernel
theorem d14_12 : decode jdk_43_method_2_code 12 = .ok (.iand, 1) := by decide +kernel
theorem d14_13 : decode jdk_43_method_2_code 13 = .ok (.i2c, 1) := by decide +kernel
theorem d14_14 : decode jdk_43_method_2_code 14 = .ok (.ireturn, 1) := by decide +kernel
theorem pn14 : plainFor (⟨"java/lang/StringLatin1", "charAt", "([BI)C"⟩ : MethodName) = true := plainFor_of_name (by first | (simp [plainName, overriddenIn]; done) | decide +kernel)
theorem pd14 : parseMethodDescriptor "([BI)C" = some ⟨[(.array .byte), .int], some .char⟩ := by decide +kernel
set_option maxRecDepth 65536 in
set_option maxHeartbeats 40000000 in
theorem rm14 (l : Launch) (Z : State) (a0 : Array Value) (hw : ∀ d ∈ tables_1, d.before a0 Z = true) (a1 : Addr) (p1 : Int32) (I : Vm → Prop) (hst : oSt I) (bs : List Value) (j : Nat) (x1 : Int32) (cs : Int32) (fm : Value) (h0 : Heap) (n0 : Nat) (Z0 : n0 ≤ h0.size) (AV : oA .byte Z h0 a1 bs) (hj : p1.toInt = (j : Int)) (hv : bs[j]? = some (.int x1)) (hx1 : ¬ p1 < 0) (hx2 : p1 < bs.length.toInt32) (WW : own_W Z h0 cs fm) :
    oC l Z n0 I (fun _ => I) (⟨"java/lang/StringLatin1", "charAt", "([BI)C"⟩ : MethodName) jdk_43_method_2_code 2 (some .char) ({ frames := 2, cells := 0, slots := 0, locals := 32 } : Room) 0 0 #[(.ref a1), (.int p1)] h0 (fun v h => v = some (.int (nar .char ((x1 &&& 255).toUInt32.toUInt16.toUInt32.toInt32))) ∧ h0 = h) := by
  refine oC.of (b := false) (L := #[.val (.ref a1), .val (.int p1)]) pn14 Z0 (fun q => (nomatch q)) (fun m => by first | (simp [entryFrame, mkF, argsToLocals, Value.category]; done) | rfl) ?_
  intro p e s m below meth c T H
  refine o_iloadN H rfl d14_0 rfl ?_
  refine o_aloadN H rfl rfl d14_1 rfl ?_
  refine o_arraylength H (bs.length.toInt32) AV rfl d14_2 rfl ?_
  refine o_static H [(.int p1), (.int (bs.length.toInt32))] [] (rm15 l Z a0 hw p1 (bs.length.toInt32) I hst cs fm h0 n0 H.le hx1 hx2 WW) (w73 hw) (w74 hw) (w9 hw) (w75 hw) (by decide) (lenOf pd15 rfl) rfl rfl (by decide) (Nat.le_of_ble_eq_true rfl) (by decide) (by decide) d14_3 rfl (fun _ q => q) hst ?_
  intro T1 v1 h1 H1 q1
  obtain ⟨rfl, rfl⟩ := q1
  show oG p e below s n0 _ _ _ _ (T1.setTop (mkF m 6 #[.val (.ref a1), .val (.int p1)] []))
  refine o_aloadN H1 rfl rfl d14_6 rfl ?_
  refine o_iloadN H1 rfl d14_7 rfl ?_
  refine o_baload H1 j (.int x1) AV hj hv d14_8 rfl ?_
  refine o_sipush H1 (255 : Int32) rfl d14_9 rfl ?_
  refine o_iand H1 d14_12 rfl ?_
  refine o_i2c H1 d14_13 rfl ?_
  exact o_nreturn H1 .char rfl (by simp) d14_14 hst (fun _ q => q) (by decide) (by decide) ⟨rfl, rfl⟩
theorem d26_0 : decode jdk_52_method_6_code 0 = .ok (.aload_n 0, 1) := by decide +kernel
theorem d26_1 : decode jdk_52_method_6_code 1 = .ok (.arraylength, 1) := by decide +kernel
theorem d26_2 : decode jdk_52_method_6_code 2 = .ok (.iconst 1, 1) := by decide +kernel
theorem d26_3 : decode jdk_52_method_6_code 3 = .ok (.ishr, 1) := by decide +kernel
theorem d26_4 : decode jdk_52_method_6_code 4 = .ok (.ireturn, 1) := by decide +kernel
theorem pn26 : plainFor (⟨"java/lang/StringUTF16", "length", "([B)I"⟩ : MethodName) = true := plainFor_of_name (by first | (simp [plainName, overriddenIn]; done) | decide +kernel)
theorem pd26 : parseMethodDescriptor "([B)I" = some ⟨[(.array .byte)], some .int⟩ := by decide +kernel
set_option maxRecDepth 65536 in
set_option maxHeartbeats 40000000 in
theorem rm26 (l : Launch) (Z : State) (a0 : Array Value) (hw : ∀ d ∈ tables_1, d.before a0 Z = true) (a1 : Addr) (I : Vm → Prop) (hst : oSt I) (bs : List Value) (h0 : Heap) (n0 : Nat) (Z0 : n0 ≤ h0.size) (AV : oA .byte Z h0 a1 bs) :
    oC l Z n0 I (fun _ => I) (⟨"java/lang/StringUTF16", "length", "([B)I"⟩ : MethodName) jdk_52_method_6_code 1 (some .int) ({ frames := 0, cells := 0, slots := 0, locals := 0 } : Room) 0 0 #[(.ref a1)] h0 (fun v h => v = some (.int (bs.length.toInt32 >>> ((1 : Int32) &&& 31))) ∧ h0 = h) := by
  refine oC.of (b := false) (L := #[.val (.ref a1)]) pn26 Z0 (fun q => (nomatch q)) (fun m => by first | (simp [entryFrame, mkF, argsToLocals, Value.category]; done) | rfl) ?_
  intro p e s m below meth c T H
  refine o_aloadN H rfl rfl d26_0 rfl ?_
  refine o_arraylength H (bs.length.toInt32) AV rfl d26_1 rfl ?_
  refine o_iconst H (1 : Int32) rfl d26_2 rfl ?_
  refine o_ishr H d26_3 rfl ?_
  exact o_ireturn H rfl d26_4 hst (fun _ q => q) (by decide) (by decide) ⟨rfl, rfl⟩
theorem d25_0 : decode jdk_52_method_91_code 0 = .ok (.iload_n 0, 1) := by decide +kernel
theorem d25_1 : decode jdk_52_method_91_code 1 = .ok (.aload_n 1, 1) := by decide +kernel
theorem d25_2 : decode jdk_52_method_91_code 2 = .ok (.invokestatic 48, 3) := by decide +kernel
theorem d25_5 : decode jdk_52_method_91_code 5 = .ok (.invokestatic 414, 3) := by decide +kernel
theorem d25_8 : decode jdk_52_method_91_code 8 = .ok (.return_, 1) := by decide +kernel
theorem pn25 : plainFor (⟨"java/lang/StringUTF16", "checkIndex", "(I[B)V"⟩ : MethodName) = true := plainFor_of_name (by first | (simp [plainName, overriddenIn]; done) | decide +kernel)
theorem pd25 : parseMethodDescriptor "(I[B)V" = some ⟨[.int, (.array .byte)], none⟩ := by decide +kernel
set_option maxRecDepth 65536 in
set_option maxHeartbeats 40000000 in
theorem rm25 (l : Launch) (Z : State) (a0 : Array Value) (hw : ∀ d ∈ tables_1, d.before a0 Z = true) (p1 : Int32) (a1 : Addr) (I : Vm → Prop) (hst : oSt I) (bs : List Value) (cs : Int32) (fm : Value) (h0 : Heap) (n0 : Nat) (Z0 : n0 ≤ h0.size) (AV : oA .byte Z h0 a1 bs) (hx1 : ¬ p1 < 0) (hx2 : p1 < bs.length.toInt32 >>> ((1 : Int32) &&& 31)) (WW : own_W Z h0 cs fm) :
    oC l Z n0 I (fun _ => I) (⟨"java/lang/StringUTF16", "checkIndex", "(I[B)V"⟩ : MethodName) jdk_52_method_91_code 2 none ({ frames := 2, cells := 0, slots := 0, locals := 32 } : Room) 0 0 #[(.int p1), (.ref a1)] h0 (fun v h => v = none ∧ h0 = h) := by
  refine oC.of (b := false) (L := #[.val (.int p1), .val (.ref a1)]) pn25 Z0 (fun q => (nomatch q)) (fun m => by first | (simp [entryFrame, mkF, argsToLocals, Value.category]; done) | rfl) ?_
  intro p e s m below meth c T H
  refine o_iloadN H rfl d25_0 rfl ?_
  refine o_aloadN H rfl rfl d25_1 rfl ?_
  refine o_static H [(.ref a1)] [(.int p1)] (rm26 l Z a0 hw a1 I hst bs h0 n0 H.le AV) (w113 hw) (w114 hw) (w51 hw) (w115 hw) (by decide) (lenOf pd26 rfl) rfl rfl (by decide) (Nat.le_of_ble_eq_true rfl) (by decide) (by decide) d25_2 rfl (fun _ q => q) hst ?_
  intro T1 v1 h1 H1 q1
  obtain ⟨rfl, rfl⟩ := q1
  show oG p e below s n0 _ _ _ _ (T1.setTop (mkF m 5 #[.val (.int p1), .val (.ref a1)] [(.int (bs.length.toInt32 >>> ((1 : Int32) &&& 31))), (.int p1)]))
  refine o_static H1 [(.int p1), (.int (bs.length.toInt32 >>> ((1 : Int32) &&& 31)))] [] (rm15 l Z a0 hw p1 (bs.length.toInt32 >>> ((1 : Int32) &&& 31)) I hst cs fm h0 n0 H1.le hx1 hx2 WW) (w116 hw) (w74 hw) (w9 hw) (w75 hw) (by decide) (lenOf pd15 rfl) rfl rfl (by decide) (Nat.le_of_ble_eq_true rfl) (by decide) (by decide) d25_5 rfl (fun _ q => q) hst ?_
  intro T2 v2 h2 H2 q2
  obtain ⟨rfl, rfl⟩ := q2
  show oG p e below s n0 _ _ _ _ (T2.setTop (mkF m 8 #[.val (.int p1), .val (.ref a1)] []))
  exact o_return H2 rfl d25_8 hst (fun _ q => q) (by decide) (by decide) ⟨rfl, rfl⟩
theorem d23_0 : decode jdk_52_method_5_code 0 = .ok (.getstatic 44, 3) := by decide +kernel
theorem d23_3 : decode jdk_52_method_5_code 3 = .ok (.ifCond .ne 25, 3) := by decide +kernel
theorem d23_28 : decode jdk_52_method_5_code 28 = .ok (.iload_n 1, 1) := by decide +kernel
theorem d23_29 : decode jdk_52_method_5_code 29 = .ok (.iconst 1, 1) := by decide +kernel
theorem d23_30 : decode jdk_52_method_5_code 30 = .ok (.ishl, 1) := by decide +kernel
theorem d23_31 : decode jdk_52_method_5_code 31 = .ok (.istore_n 1, 1) := by decide +kernel
theorem d23_32 : decode jdk_52_method_5_code 32 = .ok (.aload_n 0, 1) := by decide +kernel
theorem d23_33 : decode jdk_52_method_5_code 33 = .ok (.iload_n 1, 1) := by decide +kernel
theorem d23_34 : decode jdk_52_method_5_code 34 = .ok (.iinc 1 1, 3) := by decide +kernel
theorem d23_37 : decode jdk_52_method_5_code 37 = .ok (.baload, 1) := by decide +kernel
theorem d23_38 : decode jdk_52_method_5_code 38 = .ok (.sipush 255, 3) := by decide +kernel
theorem d23_41 : decode jdk_52_method_5_code 41 = .ok (.iand, 1) := by decide +kernel
theorem d23_42 : decode jdk_52_method_5_code 42 = .ok (.getstatic 59, 3) := by decide +kernel
theorem d23_45 : decode jdk_52_method_5_code 45 = .ok (.ishl, 1) := by decide +kernel
theorem d23_46 : decode jdk_52_method_5_code 46 = .ok (.aload_n 0, 1) := by decide +kernel
theorem d23_47 : decode jdk_52_method_5_code 47 = .ok (.iload_n 1, 1) := by decide +kernel
theorem d23_48 : decode jdk_52_method_5_code 48 = .ok (.baload, 1) := by decide +kernel
theorem d23_49 : decode jdk_52_method_5_code 49 = .ok (.sipush 255, 3) := by decide +kernel
theorem d23_52 : decode jdk_52_method_5_code 52 = .ok (.iand, 1) := by decide +kernel
theorem d23_53 : decode jdk_52_method_5_code 53 = .ok (.getstatic 63, 3) := by decide +kernel
theorem d23_56 : decode jdk_52_method_5_code 56 = .ok (.ishl, 1) := by decide +kernel
theorem d23_57 : decode jdk_52_method_5_code 57 = .ok (.ior, 1) := by decide +kernel
theorem d23_58 : decode jdk_52_method_5_code 58 = .ok (.i2c, 1) := by decide +kernel
theorem d23_59 : decode jdk_52_method_5_code 59 = .ok (.ireturn, 1) := by decide +kernel
theorem pn23 : plainFor (⟨"java/lang/StringUTF16", "getChar", "([BI)C"⟩ : MethodName) = true := plainFor_of_name (by first | (simp [plainName, overriddenIn]; done) | decide +kernel)
theorem pd23 : parseMethodDescriptor "([BI)C" = some ⟨[(.array .byte), .int], some .char⟩ := by decide +kernel
set_option maxRecDepth 65536 in
set_option maxHeartbeats 40000000 in
theorem rm23 (l : Launch) (Z : State) (a0 : Array Value) (hw : ∀ d ∈ tables_1, d.before a0 Z = true) (a1 : Addr) (p1 : Int32) (I : Vm → Prop) (hst : oSt I) (bs : List Value) (j : Nat) (x1 : Int32) (cs : Int32) (fm : Value) (h0 : Heap) (n0 : Nat) (Z0 : n0 ≤ h0.size) (AV : oA .byte Z h0 a1 bs) (hj : p1.toInt = (j : Int)) (h4 : j ≤ 4) (hb0 : bs[2 * j]? = some (own_lo x1)) (hb1 : bs[2 * j + 1]? = some (own_hi x1)) (hx : own_chr x1) (WW : own_W Z h0 cs fm) :
    oC l Z n0 I (fun _ => I) (⟨"java/lang/StringUTF16", "getChar", "([BI)C"⟩ : MethodName) jdk_52_method_5_code 2 (some .char) ({ frames := 0, cells := 0, slots := 0, locals := 0 } : Room) 0 0 #[(.ref a1), (.int p1)] h0 (fun v h => v = some (.int x1) ∧ h0 = h) := by
  refine oC.of (b := false) (L := #[.val (.ref a1), .val (.int p1)]) pn23 Z0 (fun q => (nomatch q)) (fun m => by first | (simp [entryFrame, mkF, argsToLocals, Value.category]; done) | rfl) ?_
  intro p e s m below meth c T H
  refine o_getS H (host := "") (Or.inl (w101 hw)) WW.2.2.2.2.1 d23_0 rfl ?_
  intro T1 H2
  refine o_if_t H2 d23_3 (by decide) (pt := 28) (by decide) (by decide) ?_
  refine o_iloadN H2 rfl d23_28 rfl ?_
  refine o_iconst H2 (1 : Int32) rfl d23_29 rfl ?_
  refine o_ishl H2 d23_30 rfl ?_
  refine o_istoreN H2 (L' := #[.val (.ref a1), .val (.int (p1 <<< ((1 : Int32) &&& 31)))]) rfl d23_31 rfl ?_
  refine o_aloadN H2 rfl rfl d23_32 rfl ?_
  refine o_iloadN H2 rfl d23_33 rfl ?_
  refine o_iinc H2 (1 : Int32) ((p1 <<< ((1 : Int32) &&& 31)) + (1 : Int32)) rfl rfl rfl (L' := #[.val (.ref a1), .val (.int ((p1 <<< ((1 : Int32) &&& 31)) + (1 : Int32)))]) rfl d23_34 rfl ?_
  refine o_baload H2 (2 * j) (.int (nar .byte (x1 >>> ((0 : Int32) &&& 31)).toInt8.toInt32)) AV (own_2k hj h4) hb0 d23_37 rfl ?_
  refine o_sipush H2 (255 : Int32) rfl d23_38 rfl ?_
  refine o_iand H2 d23_41 rfl ?_
  refine o_getS H2 (host := "") (Or.inl (w102 hw)) WW.2.2.2.2.2.1 d23_42 rfl ?_
  intro T3 H4
  refine o_ishl H4 d23_45 rfl ?_
  refine o_aloadN H4 rfl rfl d23_46 rfl ?_
  refine o_iloadN H4 rfl d23_47 rfl ?_
  refine o_baload H4 (2 * j + 1) (.int (nar .byte (x1 >>> ((8 : Int32) &&& 31)).toInt8.toInt32)) AV (own_2k1 (own_2k hj h4) h4) hb1 d23_48 rfl ?_
  refine o_sipush H4 (255 : Int32) rfl d23_49 rfl ?_
  refine o_iand H4 d23_52 rfl ?_
  refine o_getS H4 (host := "") (Or.inl (w103 hw)) WW.2.2.2.2.2.2 d23_53 rfl ?_
  intro T5 H6
  refine o_ishl H6 d23_56 rfl ?_
  refine o_ior H6 d23_57 rfl ?_
  refine o_i2c H6 d23_58 rfl ?_
  exact o_nreturn H6 .char rfl (by simp) d23_59 hst (fun _ q => q) (by decide) (by decide) ⟨congrArg (fun z => some (Value.int z)) (own_gcx hx), rfl⟩
theorem d24_0 : decode jdk_52_method_83_code 0 = .ok (.iload_n 1, 1) := by decide +kernel
theorem d24_1 : decode jdk_52_method_83_code 1 = .ok (.aload_n 0, 1) := by decide +kernel
theorem d24_2 : decode jdk_52_method_83_code 2 = .ok (.invokestatic 67, 3) := by decide +kernel
theorem d24_5 : decode jdk_52_method_83_code 5 = .ok (.aload_n 0, 1) := by decide +kernel
theorem d24_6 : decode jdk_52_method_83_code 6 = .ok (.iload_n 1, 1) := by decide +kernel
theorem d24_7 : decode jdk_52_method_83_code 7 = .ok (.invokestatic 71, 3) := by decide +kernel
theorem d24_10 : decode jdk_52_method_83_code 10 = .ok (.ireturn, 1) := by decide +kernel
theorem pn24 : plainFor (⟨"java/lang/StringUTF16", "charAt", "([BI)C"⟩ : MethodName) = true := plainFor_of_name (by first | (simp [plainName, overriddenIn]; done) | decide +kernel)
theorem pd24 : parseMethodDescriptor "([BI)C" = some ⟨[(.array .byte), .int], some .char⟩ := by decide +kernel
set_option maxRecDepth 65536 in
set_option maxHeartbeats 40000000 in
theorem rm24 (l : Launch) (Z : State) (a0 : Array Value) (hw : ∀ d ∈ tables_1, d.before a0 Z = true) (a1 : Addr) (p1 : Int32) (I : Vm → Prop) (hst : oSt I) (bs : List Value) (j : Nat) (x1 : Int32) (cs : Int32) (fm : Value) (h0 : Heap) (n0 : Nat) (Z0 : n0 ≤ h0.size) (AV : oA .byte Z h0 a1 bs) (hj : p1.toInt = (j : Int)) (h4 : j ≤ 4) (hb0 : bs[2 * j]? = some (own_lo x1)) (hb1 : bs[2 * j + 1]? = some (own_hi x1)) (hx : own_chr x1) (hx1 : ¬ p1 < 0) (hx2 : p1 < bs.length.toInt32 >>> ((1 : Int32) &&& 31)) (WW : own_W Z h0 cs fm) :
    oC l Z n0 I (fun _ => I) (⟨"java/lang/StringUTF16", "charAt", "([BI)C"⟩ : MethodName) jdk_52_method_83_code 2 (some .char) ({ frames := 3, cells := 0, slots := 0, locals := 46 } : Room) 0 0 #[(.ref a1), (.int p1)] h0 (fun v h => v = some (.int x1) ∧ h0 = h) := by
  refine oC.of (b := false) (L := #[.val (.ref a1), .val (.int p1)]) pn24 Z0 (fun q => (nomatch q)) (fun m => by first | (simp [entryFrame, mkF, argsToLocals, Value.category]; done) | rfl) ?_
  intro p e s m below meth c T H
  refine o_iloadN H rfl d24_0 rfl ?_
  refine o_aloadN H rfl rfl d24_1 rfl ?_
  refine o_static H [(.int p1), (.ref a1)] [] (rm25 l Z a0 hw p1 a1 I hst bs cs fm h0 n0 H.le AV hx1 hx2 WW) (w110 hw) (w111 hw) (w51 hw) (w112 hw) (by decide) (lenOf pd25 rfl) rfl rfl (by decide) (Nat.le_of_ble_eq_true rfl) (by decide) (by decide) d24_2 rfl (fun _ q => q) hst ?_
  intro T1 v1 h1 H1 q1
  obtain ⟨rfl, rfl⟩ := q1
  show oG p e below s n0 _ _ _ _ (T1.setTop (mkF m 5 #[.val (.ref a1), .val (.int p1)] []))
  refine o_aloadN H1 rfl rfl d24_5 rfl ?_
  refine o_iloadN H1 rfl d24_6 rfl ?_
  refine o_static H1 [(.ref a1), (.int p1)] [] (rm23 l Z a0 hw a1 p1 I hst bs j x1 cs fm h0 n0 H1.le AV hj h4 hb0 hb1 hx WW) (w104 hw) (w105 hw) (w51 hw) (w106 hw) (by decide) (lenOf pd23 rfl) rfl rfl (by decide) (Nat.le_of_ble_eq_true rfl) (by decide) (by decide) d24_7 rfl (fun _ q => q) hst ?_
  intro T2 v2 h2 H2 q2
  obtain ⟨rfl, rfl⟩ := q2
  show oG p e below s n0 _ _ _ _ (T2.setTop (mkF m 10 #[.val (.ref a1), .val (.int p1)] [(.int x1)]))
  exact o_nreturn H2 .char rfl (by simp) d24_10 hst (fun _ q => q) (by decide) (by decide) ⟨congrArg (fun z => some (Value.int z)) (own_narc hx), rfl⟩
theorem d12_0 : decode jdk_42_method_56_code 0 = .ok (.aload_n 0, 1) := by decide +kernel
theorem d12_1 : decode jdk_42_method_56_code 1 = .ok (.invokevirtual 492, 3) := by decide +kernel
theorem d12_4 : decode jdk_42_method_56_code 4 = .ok (.ifCond .eq 12, 3) := by decide +kernel
theorem d12_7 : decode jdk_42_method_56_code 7 = .ok (.aload_n 0, 1) := by decide +kernel
theorem d12_8 : decode jdk_42_method_56_code 8 = .ok (.getfield 9, 3) := by decide +kernel
theorem d12_11 : decode jdk_42_method_56_code 11 = .ok (.iload_n 1, 1) := by decide +kernel
theorem d12_12 : decode jdk_42_method_56_code 12 = .ok (.invokestatic 495, 3) := by decide +kernel
theorem d12_15 : decode jdk_42_method_56_code 15 = .ok (.ireturn, 1) := by decide +kernel
theorem d12_16 : decode jdk_42_method_56_code 16 = .ok (.aload_n 0, 1) := by decide +kernel
theorem d12_17 : decode jdk_42_method_56_code 17 = .ok (.getfield 9, 3) := by decide +kernel
theorem d12_20 : decode jdk_42_method_56_code 20 = .ok (.iload_n 1, 1) := by decide +kernel
theorem d12_21 : decode jdk_42_method_56_code 21 = .ok (.invokestatic 498, 3) := by decide +kernel
theorem d12_24 : decode jdk_42_method_56_code 24 = .ok (.ireturn, 1) := by decide +kernel
theorem pn12 : plainFor (⟨"java/lang/String", "charAt", "(I)C"⟩ : MethodName) = true := plainFor_of_name (by first | (simp [plainName, overriddenIn]; done) | decide +kernel)
theorem pd12 : parseMethodDescriptor "(I)C" = some ⟨[.int], some .char⟩ := by decide +kernel
set_option maxRecDepth 65536 in
set_option maxHeartbeats 40000000 in
theorem rm12_0 (l : Launch) (Z : State) (a0 : Array Value) (hw : ∀ d ∈ tables_1, d.before a0 Z = true) (a1 : Addr) (p1 : Int32) (I : Vm → Prop) (hst : oSt I) (vb : Addr) (bs : List Value) (j : Nat) (x1 : Int32) (cs : Int32) (fm : Value) (h0 : Heap) (n0 : Nat) (Z0 : n0 ≤ h0.size) (E_a1 : Exa Z h0 a1 "java/lang/String") (F_value_a1 : Fld Z h0 a1 "java/lang/String" "value" "[B" (.ref vb)) (F_coder_a1 : Fld Z h0 a1 "java/lang/String" "coder" "B" (.int (0 : Int32))) (AV : oA .byte Z h0 vb bs) (hj : p1.toInt = (j : Int)) (hv : bs[j]? = some (.int x1)) (hx1 : ¬ p1 < 0) (hx2 : p1 < bs.length.toInt32) (WW : own_W Z h0 cs fm) :
    oC l Z n0 I (fun _ => I) (⟨"java/lang/String", "charAt", "(I)C"⟩ : MethodName) jdk_42_method_56_code 2 (some .char) ({ frames := 4, cells := 0, slots := 0, locals := 60 } : Room) 0 0 #[(.ref a1), (.int p1)] h0 (fun v h => v = some (.int (nar .char (nar .char ((x1 &&& 255).toUInt32.toUInt16.toUInt32.toInt32)))) ∧ h0 = h) := by
  refine oC.of (b := false) (L := #[.val (.ref a1), .val (.int p1)]) pn12 Z0 (fun q => (nomatch q)) (fun m => by first | (simp [entryFrame, mkF, argsToLocals, Value.category]; done) | rfl) ?_
  intro p e s m below meth c T H
  refine o_aloadN H rfl rfl d12_0 rfl ?_
  refine o_virtual H [] [] (rm13_0 l Z a0 hw a1 I hst cs fm h0 n0 H.le F_coder_a1 WW) E_a1 (w64 hw) (w65 hw) (o_nf (w67 hw)) (w67 hw) (w66 hw) (w9 hw) (w68 hw) (by decide) (lenOf pd13 rfl) rfl rfl (by decide) (Nat.le_of_ble_eq_true rfl) (by decide) (by decide) d12_1 rfl (fun _ q => q) hst ?_
  intro T1 v1 h1 H1 q1
  obtain ⟨rfl, rfl⟩ := q1
  show oG p e below s n0 _ _ _ _ (T1.setTop (mkF m 4 #[.val (.ref a1), .val (.int p1)] [(.int (1 : Int32))]))
  refine o_if_f H1 d12_4 (by decide) rfl ?_
  refine o_aloadN H1 rfl rfl d12_7 rfl ?_
  refine o_getF H1 (host := "") (Or.inl (w26 hw)) F_value_a1 d12_8 rfl ?_
  intro T2 H3
  refine o_iloadN H3 rfl d12_11 rfl ?_
  refine o_static H3 [(.ref vb), (.int p1)] [] (rm14 l Z a0 hw vb p1 I hst bs j x1 cs fm h0 n0 H3.le AV hj hv hx1 hx2 WW) (w69 hw) (w70 hw) (w71 hw) (w72 hw) (by decide) (lenOf pd14 rfl) rfl rfl (by decide) (Nat.le_of_ble_eq_true rfl) (by decide) (by decide) d12_12 rfl (fun _ q => q) hst ?_
  intro T4 v4 h4 H4 q4
  obtain ⟨rfl, rfl⟩ := q4
  show oG p e below s n0 _ _ _ _ (T4.setTop (mkF m 15 #[.val (.ref a1), .val (.int p1)] [(.int (nar .char ((x1 &&& 255).toUInt32.toUInt16.toUInt32.toInt32)))]))
  exact o_nreturn H4 .char rfl (by simp) d12_15 hst (fun _ q => q) (by decide) (by decide) ⟨rfl, rfl⟩
set_option maxRecDepth 65536 in
set_option maxHeartbeats 40000000 in
theorem rm12_1 (l : Launch) (Z : State) (a0 : Array Value) (hw : ∀ d ∈ tables_1, d.before a0 Z = true) (a1 : Addr) (p1 : Int32) (I : Vm → Prop) (hst : oSt I) (vb : Addr) (bs : List Value) (j : Nat) (x1 : Int32) (cs : Int32) (fm : Value) (h0 : Heap) (n0 : Nat) (Z0 : n0 ≤ h0.size) (E_a1 : Exa Z h0 a1 "java/lang/String") (F_value_a1 : Fld Z h0 a1 "java/lang/String" "value" "[B" (.ref vb)) (F_coder_a1 : Fld Z h0 a1 "java/lang/String" "coder" "B" (.int (1 : Int32))) (AV : oA .byte Z h0 vb bs) (hj : p1.toInt = (j : Int)) (h4 : j ≤ 4) (hb0 : bs[2 * j]? = some (own_lo x1)) (hb1 : bs[2 * j + 1]? = some (own_hi x1)) (hx : own_chr x1) (hx1 : ¬ p1 < 0) (hx2 : p1 < bs.length.toInt32 >>> ((1 : Int32) &&& 31)) (WW : own_W Z h0 cs fm) :
    oC l Z n0 I (fun _ => I) (⟨"java/lang/String", "charAt", "(I)C"⟩ : MethodName) jdk_42_method_56_code 2 (some .char) ({ frames := 4, cells := 0, slots := 0, locals := 60 } : Room) 0 0 #[(.ref a1), (.int p1)] h0 (fun v h => v = some (.int x1) ∧ h0 = h) := by
  refine oC.of (b := false) (L := #[.val (.ref a1), .val (.int p1)]) pn12 Z0 (fun q => (nomatch q)) (fun m => by first | (simp [entryFrame, mkF, argsToLocals, Value.category]; done) | rfl) ?_
  intro p e s m below meth c T H
  refine o_aloadN H rfl rfl d12_0 rfl ?_
  refine o_virtual H [] [] (rm13_1 l Z a0 hw a1 I hst cs fm h0 n0 H.le F_coder_a1 WW) E_a1 (w64 hw) (w65 hw) (o_nf (w67 hw)) (w67 hw) (w66 hw) (w9 hw) (w68 hw) (by decide) (lenOf pd13 rfl) rfl rfl (by decide) (Nat.le_of_ble_eq_true rfl) (by decide) (by decide) d12_1 rfl (fun _ q => q) hst ?_
  intro T1 v1 h1 H1 q1
  obtain ⟨rfl, rfl⟩ := q1
  show oG p e below s n0 _ _ _ _ (T1.setTop (mkF m 4 #[.val (.ref a1), .val (.int p1)] [(.int (0 : Int32))]))
  refine o_if_t H1 d12_4 (by decide) (pt := 16) (by decide) (by decide) ?_
  refine o_aloadN H1 rfl rfl d12_16 rfl ?_
  refine o_getF H1 (host := "") (Or.inl (w26 hw)) F_value_a1 d12_17 rfl ?_
  intro T2 H3
  refine o_iloadN H3 rfl d12_20 rfl ?_
  refine o_static H3 [(.ref vb), (.int p1)] [] (rm24 l Z a0 hw vb p1 I hst bs j x1 cs fm h0 n0 H3.le AV hj h4 hb0 hb1 hx hx1 hx2 WW) (w107 hw) (w108 hw) (w51 hw) (w109 hw) (by decide) (lenOf pd24 rfl) rfl rfl (by decide) (Nat.le_of_ble_eq_true rfl) (by decide) (by decide) d12_21 rfl (fun _ q => q) hst ?_
  intro T4 v4 h4 H4 q4
  obtain ⟨rfl, rfl⟩ := q4
  show oG p e below s n0 _ _ _ _ (T4.setTop (mkF m 24 #[.val (.ref a1), .val (.int p1)] [(.int x1)]))
  exact o_nreturn H4 .char rfl (by simp) d12_24 hst (fun _ q => q) (by decide) (by decide) ⟨congrArg (fun z => some (Value.int z)) (own_narc hx), rfl⟩
theorem rmCh (l : Launch) (Z : State) (a0 : Array Value) (hw : ∀ d ∈ tables_1, d.before a0 Z = true) (a1 : Addr) (p1 : Int32) (I : Vm → Prop) (hst : oSt I) (us : List Int32) (j : Nat) (x1 : Int32) (cs : Int32) (fm : Value) (h0 : Heap) (n0 : Nat) (Z0 : n0 ≤ h0.size) (WW : own_W Z h0 cs fm) (TS : own_T Z h0 a1 us) (hu : us.length ≤ 4) (hj : p1.toInt = (j : Int)) (hv : us[j]? = some x1) (hx : own_chr x1) :
    oC l Z n0 I (fun _ => I) (⟨"java/lang/String", "charAt", "(I)C"⟩ : MethodName) jdk_42_method_56_code 2 (some .char) ({ frames := 4, cells := 0, slots := 0, locals := 60 } : Room) 0 0 #[(.ref a1), (.int p1)] h0 (fun v h => v = some (.int x1) ∧ h0 = h) := by
  have hl : j < us.length := (List.getElem?_eq_some_iff.mp hv).1
  obtain ⟨vb, co, bs, q1, q2, q3, q4, q5⟩ := TS
  rcases q5 with ⟨rfl, rfl, q6⟩ | ⟨rfl, rfl⟩
  · have cx := own_cix hu hj hl (z := (us.map own_lat).length.toInt32) (by rw [List.length_map])
    exact (rm12_0 l Z a0 hw a1 p1 I hst vb _ j (nar .byte x1.toInt8.toInt32) cs fm h0 n0 Z0 q1 q2 q3 q4 hj (by rw [List.getElem?_map, hv]; rfl) cx.1 cx.2 WW).mono (fun v h q => ⟨q.1.trans (by rw [own_latx hx (q6 _ (List.mem_of_getElem? hv))]), q.2⟩)
  · have cx := own_cix hu hj hl (own_l1 hu)
    exact rm12_1 l Z a0 hw a1 p1 I hst vb _ j x1 cs fm h0 n0 Z0 q1 q2 q3 q4 hj (by omega) (own_utf_get hv).1 (own_utf_get hv).2 hx cx.1 cx.2 WW
theorem d17_0 : decode prog_20_method_13_code 0 = .ok (.iload_n 0, 1) := by decide +kernel
theorem d17_1 : decode prog_20_method_13_code 1 = .ok (.bipush 65, 2) := by decide +kernel
theorem d17_3 : decode prog_20_method_13_code 3 = .ok (.if_icmp .lt 17, 3) := by decide +kernel
theorem d17_6 : decode prog_20_method_13_code 6 = .ok (.iload_n 0, 1) := by decide +kernel
theorem d17_7 : decode prog_20_method_13_code 7 = .ok (.bipush 90, 2) := by decide +kernel
theorem d17_9 : decode prog_20_method_13_code 9 = .ok (.if_icmp .gt 11, 3) := by decide +kernel
theorem d17_12 : decode prog_20_method_13_code 12 = .ok (.iload_n 0, 1) := by decide +kernel
theorem d17_13 : decode prog_20_method_13_code 13 = .ok (.bipush 32, 2) := by decide +kernel
theorem d17_15 : decode prog_20_method_13_code 15 = .ok (.iadd, 1) := by decide +kernel
theorem d17_16 : decode prog_20_method_13_code 16 = .ok (.i2c, 1) := by decide +kernel
theorem d17_17 : decode prog_20_method_13_code 17 = .ok (.goto 4, 3) := by decide +kernel
theorem d17_20 : decode prog_20_method_13_code 20 = .ok (.iload_n 0, 1) := by decide +kernel
theorem d17_21 : decode prog_20_method_13_code 21 = .ok (.ireturn, 1) := by decide +kernel
theorem pn17 : plainFor (⟨"com/example/encase/encase/codec/Labels", "lowerAscii", "(C)C"⟩ : MethodName) = true := plainFor_of_name (by first | (simp [plainName, overriddenIn]; done) | decide +kernel)
theorem pd17 : parseMethodDescriptor "(C)C" = some ⟨[.char], some .char⟩ := by decide +kernel
set_option maxRecDepth 65536 in
set_option maxHeartbeats 40000000 in
theorem rm17 (l : Launch) (Z : State) (a0 : Array Value) (hw : ∀ d ∈ tables_1, d.before a0 Z = true) (p1 : Int32) (I : Vm → Prop) (hst : oSt I)  (h0 : Heap) (n0 : Nat) (Z0 : n0 ≤ h0.size) (hx : own_chr p1) :
    oC l Z n0 I (fun _ => I) (⟨"com/example/encase/encase/codec/Labels", "lowerAscii", "(C)C"⟩ : MethodName) prog_20_method_13_code 1 (some .char) ({ frames := 0, cells := 0, slots := 0, locals := 0 } : Room) 0 0 #[(.int p1)] h0 (fun v h => v = some (.int (own_low p1)) ∧ h0 = h) := by
  refine oC.of (b := false) (L := #[.val (.int p1)]) pn17 Z0 (fun q => (nomatch q)) (fun m => by first | (simp [entryFrame, mkF, argsToLocals, Value.category]; done) | rfl) ?_
  intro p e s m below meth c T H
  refine o_iloadN H rfl d17_0 rfl ?_
  refine o_bipush H (65 : Int32) rfl d17_1 rfl ?_
  refine o_icmp_lt H d17_3 (pt := 20) (by decide) (by decide) rfl ?_ ?_
  · intro c3_1
    refine o_iloadN H rfl d17_20 rfl ?_
    exact o_nreturn H .char rfl (by simp) d17_21 hst (fun _ q => q) (by decide) (by decide) ⟨congrArg (fun z => some (Value.int z)) (own_low_l hx c3_1), rfl⟩
  · intro c3_1
    refine o_iloadN H rfl d17_6 rfl ?_
    refine o_bipush H (90 : Int32) rfl d17_7 rfl ?_
    refine o_icmp_gt H d17_9 (pt := 20) (by decide) (by decide) rfl ?_ ?_
    · intro c9_2
      refine o_iloadN H rfl d17_20 rfl ?_
      exact o_nreturn H .char rfl (by simp) d17_21 hst (fun _ q => q) (by decide) (by decide) ⟨congrArg (fun z => some (Value.int z)) (own_low_r hx c9_2), rfl⟩
    · intro c9_2
      refine o_iloadN H rfl d17_12 rfl ?_
      refine o_bipush H (32 : Int32) rfl d17_13 rfl ?_
      refine o_iadd H d17_15 rfl ?_
      refine o_i2c H d17_16 rfl ?_
      refine o_goto H d17_17 (pt := 21) (by decide) (by decide) ?_
      exact o_nreturn H .char rfl (by simp) d17_21 hst (fun _ q => q) (by decide) (by decide) ⟨congrArg (fun z => some (Value.int z)) (own_low_t c3_1 c9_2), rfl⟩
theorem d18_0 : decode method_5_code 0 = .ok (.iload_n 0, 1) := by decide +kernel
theorem d18_1 : decode method_5_code 1 = .ok (.istore_n 1, 1) := by decide +kernel
theorem d18_2 : decode method_5_code 2 = .ok (.iload_n 1, 1) := by decide +kernel
theorem d18_3 : decode method_5_code 3 = .ok (.bipush 65, 2) := by decide +kernel
theorem d18_5 : decode method_5_code 5 = .ok (.if_icmp .lt 15, 3) := by decide +kernel
theorem d18_8 : decode method_5_code 8 = .ok (.iload_n 1, 1) := by decide +kernel
theorem d18_9 : decode method_5_code 9 = .ok (.bipush 90, 2) := by decide +kernel
theorem d18_11 : decode method_5_code 11 = .ok (.if_icmp .gt 9, 3) := by decide +kernel
theorem d18_14 : decode method_5_code 14 = .ok (.iload_n 1, 1) := by decide +kernel
theorem d18_15 : decode method_5_code 15 = .ok (.bipush 32, 2) := by decide +kernel
theorem d18_17 : decode method_5_code 17 = .ok (.iadd, 1) := by decide +kernel
theorem d18_18 : decode method_5_code 18 = .ok (.i2c, 1) := by decide +kernel
theorem d18_19 : decode method_5_code 19 = .ok (.ireturn, 1) := by decide +kernel
theorem d18_20 : decode method_5_code 20 = .ok (.iload_n 0, 1) := by decide +kernel
theorem d18_21 : decode method_5_code 21 = .ok (.ireturn, 1) := by decide +kernel
theorem pn18 : plainFor (⟨"com/example/encase/encase/codec/LabelsLowerAsciiPinLaw", "ref", "(C)C"⟩ : MethodName) = true := plainFor_of_name (by first | (simp [plainName, overriddenIn]; done) | decide +kernel)
theorem pd18 : parseMethodDescriptor "(C)C" = some ⟨[.char], some .char⟩ := by decide +kernel
set_option maxRecDepth 65536 in
set_option maxHeartbeats 40000000 in
theorem rm18 (l : Launch) (Z : State) (a0 : Array Value) (hw : ∀ d ∈ tables_1, d.before a0 Z = true) (p1 : Int32) (I : Vm → Prop) (hst : oSt I)  (h0 : Heap) (n0 : Nat) (Z0 : n0 ≤ h0.size) (hx : own_chr p1) :
    oC l Z n0 I (fun _ => I) (⟨"com/example/encase/encase/codec/LabelsLowerAsciiPinLaw", "ref", "(C)C"⟩ : MethodName) method_5_code 2 (some .char) ({ frames := 0, cells := 0, slots := 0, locals := 0 } : Room) 0 0 #[(.int p1)] h0 (fun v h => v = some (.int (own_low p1)) ∧ h0 = h) := by
  refine oC.of (b := false) (L := #[.val (.int p1), .unset]) pn18 Z0 (fun q => (nomatch q)) (fun m => by first | (simp [entryFrame, mkF, argsToLocals, Value.category]; done) | rfl) ?_
  intro p e s m below meth c T H
  refine o_iloadN H rfl d18_0 rfl ?_
  refine o_istoreN H (L' := #[.val (.int p1), .val (.int p1)]) rfl d18_1 rfl ?_
  refine o_iloadN H rfl d18_2 rfl ?_
  refine o_bipush H (65 : Int32) rfl d18_3 rfl ?_
  refine o_icmp_lt H d18_5 (pt := 20) (by decide) (by decide) rfl ?_ ?_
  · intro c5_1
    refine o_iloadN H rfl d18_20 rfl ?_
    exact o_nreturn H .char rfl (by simp) d18_21 hst (fun _ q => q) (by decide) (by decide) ⟨congrArg (fun z => some (Value.int z)) (own_low_l hx c5_1), rfl⟩
  · intro c5_1
    refine o_iloadN H rfl d18_8 rfl ?_
    refine o_bipush H (90 : Int32) rfl d18_9 rfl ?_
    refine o_icmp_gt H d18_11 (pt := 20) (by decide) (by decide) rfl ?_ ?_
    · intro c11_2
      refine o_iloadN H rfl d18_20 rfl ?_
      exact o_nreturn H .char rfl (by simp) d18_21 hst (fun _ q => q) (by decide) (by decide) ⟨congrArg (fun z => some (Value.int z)) (own_low_r hx c11_2), rfl⟩
    · intro c11_2
      refine o_iloadN H rfl d18_14 rfl ?_
      refine o_bipush H (32 : Int32) rfl d18_15 rfl ?_
      refine o_iadd H d18_17 rfl ?_
      refine o_i2c H d18_18 rfl ?_
      exact o_nreturn H .char rfl (by simp) d18_19 hst (fun _ q => q) (by decide) (by decide) ⟨congrArg (fun z => some (Value.int z)) (own_low_t c5_1 c11_2), rfl⟩
theorem d22_0 : decode jdk_52_method_4_code 0 = .ok (.getstatic 44, 3) := by decide +kernel
theorem d22_3 : decode jdk_52_method_4_code 3 = .ok (.ifCond .ne 25, 3) := by decide +kernel
theorem d22_28 : decode jdk_52_method_4_code 28 = .ok (.iload_n 1, 1) := by decide +kernel
theorem d22_29 : decode jdk_52_method_4_code 29 = .ok (.iconst 1, 1) := by decide +kernel
theorem d22_30 : decode jdk_52_method_4_code 30 = .ok (.ishl, 1) := by decide +kernel
theorem d22_31 : decode jdk_52_method_4_code 31 = .ok (.istore_n 1, 1) := by decide +kernel
theorem d22_32 : decode jdk_52_method_4_code 32 = .ok (.aload_n 0, 1) := by decide +kernel
theorem d22_33 : decode jdk_52_method_4_code 33 = .ok (.iload_n 1, 1) := by decide +kernel
theorem d22_34 : decode jdk_52_method_4_code 34 = .ok (.iinc 1 1, 3) := by decide +kernel
theorem d22_37 : decode jdk_52_method_4_code 37 = .ok (.iload_n 2, 1) := by decide +kernel
theorem d22_38 : decode jdk_52_method_4_code 38 = .ok (.getstatic 59, 3) := by decide +kernel
theorem d22_41 : decode jdk_52_method_4_code 41 = .ok (.ishr, 1) := by decide +kernel
theorem d22_42 : decode jdk_52_method_4_code 42 = .ok (.i2b, 1) := by decide +kernel
theorem d22_43 : decode jdk_52_method_4_code 43 = .ok (.bastore, 1) := by decide +kernel
theorem d22_44 : decode jdk_52_method_4_code 44 = .ok (.aload_n 0, 1) := by decide +kernel
theorem d22_45 : decode jdk_52_method_4_code 45 = .ok (.iload_n 1, 1) := by decide +kernel
theorem d22_46 : decode jdk_52_method_4_code 46 = .ok (.iload_n 2, 1) := by decide +kernel
theorem d22_47 : decode jdk_52_method_4_code 47 = .ok (.getstatic 63, 3) := by decide +kernel
theorem d22_50 : decode jdk_52_method_4_code 50 = .ok (.ishr, 1) := by decide +kernel
theorem d22_51 : decode jdk_52_method_4_code 51 = .ok (.i2b, 1) := by decide +kernel
theorem d22_52 : decode jdk_52_method_4_code 52 = .ok (.bastore, 1) := by decide +kernel
theorem d22_53 : decode jdk_52_method_4_code 53 = .ok (.return_, 1) := by decide +kernel
theorem pn22 : plainFor (⟨"java/lang/StringUTF16", "putChar", "([BII)V"⟩ : MethodName) = true := plainFor_of_name (by first | (simp [plainName, overriddenIn]; done) | decide +kernel)
theorem pd22 : parseMethodDescriptor "([BII)V" = some ⟨[(.array .byte), .int, .int], none⟩ := by decide +kernel
set_option maxRecDepth 65536 in
set_option maxHeartbeats 40000000 in
theorem rm22 (l : Launch) (Z : State) (a0 : Array Value) (hw : ∀ d ∈ tables_1, d.before a0 Z = true) (a1 : Addr) (p1 : Int32) (p2 : Int32) (I : Vm → Prop) (hst : oSt I) (bs : List Value) (j : Nat) (cs : Int32) (fm : Value) (h0 : Heap) (n0 : Nat) (Z0 : n0 ≤ h0.size) (AV : oA .byte Z h0 a1 bs) (g_a1 : n0 ≤ a1) (hj : p1.toInt = (j : Int)) (h4 : j ≤ 4) (hl : 2 * j + 1 < bs.length) (WW : own_W Z h0 cs fm) :
    oC l Z n0 I (fun _ => I) (⟨"java/lang/StringUTF16", "putChar", "([BII)V"⟩ : MethodName) jdk_52_method_4_code 3 none ({ frames := 0, cells := 0, slots := 0, locals := 0 } : Room) 0 0 #[(.ref a1), (.int p1), (.int p2)] h0 (fun v h => v = none ∧ Keep h0 h [a1] ∧ oA .byte Z h a1 ((bs.set (2 * j) (own_lo p2)).set (2 * j + 1) (own_hi p2))) := by
  refine oC.of (b := false) (L := #[.val (.ref a1), .val (.int p1), .val (.int p2)]) pn22 Z0 (fun q => (nomatch q)) (fun m => by first | (simp [entryFrame, mkF, argsToLocals, Value.category]; done) | rfl) ?_
  intro p e s m below meth c T H
  refine o_getS H (host := "") (Or.inl (w101 hw)) WW.2.2.2.2.1 d22_0 rfl ?_
  intro T1 H2
  refine o_if_t H2 d22_3 (by decide) (pt := 28) (by decide) (by decide) ?_
  refine o_iloadN H2 rfl d22_28 rfl ?_
  refine o_iconst H2 (1 : Int32) rfl d22_29 rfl ?_
  refine o_ishl H2 d22_30 rfl ?_
  refine o_istoreN H2 (L' := #[.val (.ref a1), .val (.int (p1 <<< ((1 : Int32) &&& 31))), .val (.int p2)]) rfl d22_31 rfl ?_
  refine o_aloadN H2 rfl rfl d22_32 rfl ?_
  refine o_iloadN H2 rfl d22_33 rfl ?_
  refine o_iinc H2 (1 : Int32) ((p1 <<< ((1 : Int32) &&& 31)) + (1 : Int32)) rfl rfl rfl (L' := #[.val (.ref a1), .val (.int ((p1 <<< ((1 : Int32) &&& 31)) + (1 : Int32))), .val (.int p2)]) rfl d22_34 rfl ?_
  refine o_iloadN H2 rfl d22_37 rfl ?_
  refine o_getS H2 (host := "") (Or.inl (w102 hw)) WW.2.2.2.2.2.1 d22_38 rfl ?_
  intro T3 H4
  refine o_ishr H4 d22_41 rfl ?_
  refine o_i2b H4 d22_42 rfl ?_
  refine o_bastore H4 (2 * j) AV (own_2k hj h4) (by omega) g_a1 d22_43 rfl ?_
  intro T5 h5 H5 W5 A5
  have k6 := (Keep.refl h0 [a1]).wr W5 (Or.inl (by simp))
  have f7 := WW.1.wr W5
  have f8 := WW.2.2.1.wr W5
  have f9 := WW.2.2.2.2.1.wr W5
  have f10 := WW.2.2.2.2.2.1.wr W5
  have f11 := WW.2.2.2.2.2.2.wr W5
  refine o_aloadN H5 rfl rfl d22_44 rfl ?_
  refine o_iloadN H5 rfl d22_45 rfl ?_
  refine o_iloadN H5 rfl d22_46 rfl ?_
  refine o_getS H5 (host := "") (Or.inl (w103 hw)) f11 d22_47 rfl ?_
  intro T12 H13
  refine o_ishr H13 d22_50 rfl ?_
  refine o_i2b H13 d22_51 rfl ?_
  refine o_bastore H13 (2 * j + 1) A5 (own_2k1 (own_2k hj h4) h4) (by rw [List.length_set]; exact hl) g_a1 d22_52 rfl ?_
  intro T14 h14 H14 W14 A14
  have k15 := k6.wr W14 (Or.inl (by simp))
  have f16 := f7.wr W14
  have f17 := f8.wr W14
  have f18 := f9.wr W14
  have f19 := f10.wr W14
  have f20 := f11.wr W14
  exact o_return H14 rfl d22_53 hst (fun _ q => q) (by decide) (by decide) ⟨rfl, k15, A14⟩
theorem d21_0 : decode jdk_52_method_3_code 0 = .ok (.iload_n 0, 1) := by decide +kernel
theorem d21_1 : decode jdk_52_method_3_code 1 = .ok (.ifCond .ge 11, 3) := by decide +kernel
theorem d21_12 : decode jdk_52_method_3_code 12 = .ok (.iload_n 0, 1) := by decide +kernel
theorem d21_13 : decode jdk_52_method_3_code 13 = .ok (.ldc 20, 2) := by decide +kernel
theorem d21_15 : decode jdk_52_method_3_code 15 = .ok (.if_icmp .lt 40, 3) := by decide +kernel
theorem d21_55 : decode jdk_52_method_3_code 55 = .ok (.iload_n 0, 1) := by decide +kernel
theorem d21_56 : decode jdk_52_method_3_code 56 = .ok (.iconst 1, 1) := by decide +kernel
theorem d21_57 : decode jdk_52_method_3_code 57 = .ok (.ishl, 1) := by decide +kernel
theorem d21_58 : decode jdk_52_method_3_code 58 = .ok (.ireturn, 1) := by decide +kernel
theorem pn21 : plainFor (⟨"java/lang/StringUTF16", "newBytesLength", "(I)I"⟩ : MethodName) = true := plainFor_of_name (by first | (simp [plainName, overriddenIn]; done) | decide +kernel)
theorem pd21 : parseMethodDescriptor "(I)I" = some ⟨[.int], some .int⟩ := by decide +kernel
set_option maxRecDepth 65536 in
set_option maxHeartbeats 40000000 in
theorem rm21_1 (l : Launch) (Z : State) (a0 : Array Value) (hw : ∀ d ∈ tables_1, d.before a0 Z = true)  (I : Vm → Prop) (hst : oSt I)  (h0 : Heap) (n0 : Nat) (Z0 : n0 ≤ h0.size)  :
    oC l Z n0 I (fun _ => I) (⟨"java/lang/StringUTF16", "newBytesLength", "(I)I"⟩ : MethodName) jdk_52_method_3_code 1 (some .int) ({ frames := 0, cells := 0, slots := 0, locals := 0 } : Room) 0 0 #[(.int (1 : Int32))] h0 (fun v h => v = some (.int 2) ∧ h0 = h) := by
  refine oC.of (b := false) (L := #[.val (.int (1 : Int32))]) pn21 Z0 (fun q => (nomatch q)) (fun m => by first | (simp [entryFrame, mkF, argsToLocals, Value.category]; done) | rfl) ?_
  intro p e s m below meth c T H
  refine o_iloadN H rfl d21_0 rfl ?_
  refine o_if_t H d21_1 (by decide) (pt := 12) (by decide) (by decide) ?_
  refine o_iloadN H rfl d21_12 rfl ?_
  refine o_ldcI H (1073741823 : Int32) (w97 hw) d21_13 rfl ?_
  refine o_icmp_t H d21_15 (by decide) (pt := 55) (by decide) (by decide) ?_
  refine o_iloadN H rfl d21_55 rfl ?_
  refine o_iconst H (1 : Int32) rfl d21_56 rfl ?_
  refine o_ishl H d21_57 rfl ?_
  refine o_fold (2 : Int32) (by decide) ?_
  exact o_ireturn H rfl d21_58 hst (fun _ q => q) (by decide) (by decide) ⟨rfl, rfl⟩
theorem d20_0 : decode jdk_52_method_2_code 0 = .ok (.iload_n 0, 1) := by decide +kernel
theorem d20_1 : decode jdk_52_method_2_code 1 = .ok (.invokestatic 11, 3) := by decide +kernel
theorem d20_4 : decode jdk_52_method_2_code 4 = .ok (.newarray .byte, 2) := by decide +kernel
theorem d20_6 : decode jdk_52_method_2_code 6 = .ok (.areturn, 1) := by decide +kernel
theorem pn20 : plainFor (⟨"java/lang/StringUTF16", "newBytesFor", "(I)[B"⟩ : MethodName) = true := plainFor_of_name (by first | (simp [plainName, overriddenIn]; done) | decide +kernel)
theorem pd20 : parseMethodDescriptor "(I)[B" = some ⟨[.int], some (.array .byte)⟩ := by decide +kernel
set_option maxRecDepth 65536 in
set_option maxHeartbeats 40000000 in
theorem rm20_1 (l : Launch) (Z : State) (a0 : Array Value) (hw : ∀ d ∈ tables_1, d.before a0 Z = true)  (I : Vm → Prop) (hst : oSt I)  (h0 : Heap) (n0 : Nat) (Z0 : n0 ≤ h0.size)  :
    oC l Z n0 I (fun _ => I) (⟨"java/lang/StringUTF16", "newBytesFor", "(I)[B"⟩ : MethodName) jdk_52_method_2_code 1 (some (.array .byte)) ({ frames := 1, cells := 1, slots := 8, locals := 12 } : Room) 1 8 #[(.int (1 : Int32))] h0 (fun v h => ∃ r, v = some (.ref r) ∧ Keep h0 h [] ∧ oA .byte Z h r [(.int 0), (.int 0)] ∧ n0 ≤ r ∧ h0.size ≤ r) := by
  refine oC.of (b := false) (L := #[.val (.int (1 : Int32))]) pn20 Z0 (fun q => (nomatch q)) (fun m => by first | (simp [entryFrame, mkF, argsToLocals, Value.category]; done) | rfl) ?_
  intro p e s m below meth c T H
  refine o_iloadN H rfl d20_0 rfl ?_
  refine o_static H [(.int (1 : Int32))] [] (rm21_1 l Z a0 hw  I hst  h0 n0 H.le ) (w94 hw) (w95 hw) (w51 hw) (w96 hw) (by decide) (lenOf pd21 rfl) rfl rfl (by decide) (Nat.le_of_ble_eq_true rfl) (by decide) (by decide) d20_1 rfl (fun _ q => q) hst ?_
  intro T1 v1 h1 H1 q1
  obtain ⟨rfl, rfl⟩ := q1
  show oG p e below s n0 _ _ _ _ (T1.setTop (mkF m 4 #[.val (.int (1 : Int32))] [(.int (2 : Int32))]))
  refine o_newarr (aty := .byte) H1 2 2 (w21 hw) (by decide) (by decide) (by decide) d20_4 rfl (by decide) (by decide) ?_
  intro T2 h2 b2 g2 H2 E2 A2
  have z2 : n0 ≤ b2 := by rw [g2]; exact H1.le
  have y2 : h0.size ≤ b2 := by rw [g2]; exact (Keep.refl h0 []).1
  have k3 := (Keep.refl h0 []).ext E2
  have f4 : oA .byte Z h2 b2 [(.int 0), (.int 0)] := A2
  exact o_areturn H2 rfl rfl rfl rfl d20_6 hst (fun _ q => q) (by decide) (by decide) ⟨_, rfl, k3, f4, z2, y2⟩
theorem d19_0 : decode jdk_52_method_14_code 0 = .ok (.iload_n 2, 1) := by decide +kernel
theorem d19_1 : decode jdk_52_method_14_code 1 = .ok (.invokestatic 107, 3) := by decide +kernel
theorem d19_4 : decode jdk_52_method_14_code 4 = .ok (.astore_n 3, 1) := by decide +kernel
theorem d19_5 : decode jdk_52_method_14_code 5 = .ok (.iconst 0, 1) := by decide +kernel
theorem d19_6 : decode jdk_52_method_14_code 6 = .ok (.istore 4, 2) := by decide +kernel
theorem d19_8 : decode jdk_52_method_14_code 8 = .ok (.iload 4, 2) := by decide +kernel
theorem d19_10 : decode jdk_52_method_14_code 10 = .ok (.iload_n 2, 1) := by decide +kernel
theorem d19_11 : decode jdk_52_method_14_code 11 = .ok (.if_icmp .ge 21, 3) := by decide +kernel
theorem d19_14 : decode jdk_52_method_14_code 14 = .ok (.aload_n 3, 1) := by decide +kernel
theorem d19_15 : decode jdk_52_method_14_code 15 = .ok (.iload 4, 2) := by decide +kernel
theorem d19_17 : decode jdk_52_method_14_code 17 = .ok (.aload_n 0, 1) := by decide +kernel
theorem d19_18 : decode jdk_52_method_14_code 18 = .ok (.iload_n 1, 1) := by decide +kernel
theorem d19_19 : decode jdk_52_method_14_code 19 = .ok (.caload, 1) := by decide +kernel
theorem d19_20 : decode jdk_52_method_14_code 20 = .ok (.invokestatic 111, 3) := by decide +kernel
theorem d19_23 : decode jdk_52_method_14_code 23 = .ok (.iinc 1 1, 3) := by decide +kernel
theorem d19_26 : decode jdk_52_method_14_code 26 = .ok (.iinc 4 1, 3) := by decide +kernel
theorem d19_29 : decode jdk_52_method_14_code 29 = .ok (.goto (-21), 3) := by decide +kernel
theorem d19_32 : decode jdk_52_method_14_code 32 = .ok (.aload_n 3, 1) := by decide +kernel
theorem d19_33 : decode jdk_52_method_14_code 33 = .ok (.areturn, 1) := by decide +kernel
theorem pn19 : plainFor (⟨"java/lang/StringUTF16", "toBytes", "([CII)[B"⟩ : MethodName) = true := plainFor_of_name (by first | (simp [plainName, overriddenIn]; done) | decide +kernel)
theorem pd19 : parseMethodDescriptor "([CII)[B" = some ⟨[(.array .char), .int, .int], some (.array .byte)⟩ := by decide +kernel
set_option maxRecDepth 65536 in
set_option maxHeartbeats 40000000 in
theorem rm19_1 (l : Launch) (Z : State) (a0 : Array Value) (hw : ∀ d ∈ tables_1, d.before a0 Z = true) (a1 : Addr) (I : Vm → Prop) (hst : oSt I) (cs : Int32) (fm : Value) (x0 : Int32) (h0 : Heap) (n0 : Nat) (Z0 : n0 ≤ h0.size) (AV1 : oA .char Z h0 a1 [(.int x0)]) (WW : own_W Z h0 cs fm) :
    oC l Z n0 I (fun _ => I) (⟨"java/lang/StringUTF16", "toBytes", "([CII)[B"⟩ : MethodName) jdk_52_method_14_code 5 (some (.array .byte)) ({ frames := 2, cells := 1, slots := 8, locals := 26 } : Room) 1 8 #[(.ref a1), (.int (0 : Int32)), (.int (1 : Int32))] h0 (fun v h => ∃ r, v = some (.ref r) ∧ Keep h0 h [] ∧ oA .byte Z h r (own_utf ([x0] : List Int32)) ∧ h0.size ≤ r) := by
  refine oC.of (b := false) (L := #[.val (.ref a1), .val (.int (0 : Int32)), .val (.int (1 : Int32)), .unset, .unset]) pn19 Z0 (fun q => (nomatch q)) (fun m => by first | (simp [entryFrame, mkF, argsToLocals, Value.category]; done) | rfl) ?_
  intro p e s m below meth c T H
  refine o_iloadN H rfl d19_0 rfl ?_
  refine o_static H [(.int (1 : Int32))] [] (rm20_1 l Z a0 hw  I hst  h0 n0 H.le ) (w91 hw) (w92 hw) (w51 hw) (w93 hw) (by decide) (lenOf pd20 rfl) rfl rfl (by decide) (Nat.le_of_ble_eq_true rfl) (by decide) (by decide) d19_1 rfl (fun _ q => q) hst ?_
  intro T1 v1 h1 H1 q1
  obtain ⟨r1, rfl, K1, A1, z1, y01⟩ := q1
  have k2 := (Keep.refl h0 []).trans K1 all0
  have y1 : h0.size ≤ r1 := Nat.le_trans ((Keep.refl h0 [])).1 y01
  have na1 : a1 ≠ r1 := Nat.ne_of_lt (Nat.lt_of_lt_of_le AV1.lt y1)
  show oG p e below s n0 _ _ _ _ (T1.setTop (mkF m 4 #[.val (.ref a1), .val (.int (0 : Int32)), .val (.int (1 : Int32)), .unset, .unset] [(.ref r1)]))
  refine o_astoreN H1 (L' := #[.val (.ref a1), .val (.int (0 : Int32)), .val (.int (1 : Int32)), .val (.ref r1), .unset]) rfl rfl d19_4 rfl ?_
  refine o_iconst H1 (0 : Int32) rfl d19_5 rfl ?_
  refine o_istore H1 (L' := #[.val (.ref a1), .val (.int (0 : Int32)), .val (.int (1 : Int32)), .val (.ref r1), .val (.int (0 : Int32))]) rfl d19_6 rfl ?_
  refine o_iload H1 rfl d19_8 rfl ?_
  refine o_iloadN H1 rfl d19_10 rfl ?_
  refine o_icmp_f H1 d19_11 (by decide) rfl ?_
  refine o_aloadN H1 rfl rfl d19_14 rfl ?_
  refine o_iload H1 rfl d19_15 rfl ?_
  refine o_aloadN H1 rfl rfl d19_17 rfl ?_
  refine o_iloadN H1 rfl d19_18 rfl ?_
  refine o_caload H1 0 (.int x0) (AV1.ext (o_kext k2)) (by decide) rfl d19_19 rfl ?_
  refine o_static H1 [(.ref r1), (.int (0 : Int32)), (.int x0)] [] (rm22 l Z a0 hw r1 (0 : Int32) x0 I hst [(.int 0), (.int 0)] 0 cs fm h1 n0 H1.le A1 z1 (by decide) (by decide) (Nat.le_of_ble_eq_true rfl) (WW.ext (o_kext k2))) (w98 hw) (w99 hw) (w51 hw) (w100 hw) (by decide) (lenOf pd22 rfl) rfl rfl (by decide) (Nat.le_of_ble_eq_true rfl) (by decide) (by decide) d19_20 rfl (fun _ q => q) hst ?_
  intro T3 v3 h3 H3 q3
  obtain ⟨rfl, K3, A3⟩ := q3
  have k4 := k2.trans K3 (allS (Or.inr y1) all0)
  have AO3 : oA .byte Z h3 r1 [(own_lo x0), (own_hi x0)] := A3
  show oG p e below s n0 _ _ _ _ (T3.setTop (mkF m 23 #[.val (.ref a1), .val (.int (0 : Int32)), .val (.int (1 : Int32)), .val (.ref r1), .val (.int (0 : Int32))] []))
  refine o_iinc H3 (1 : Int32) (1 : Int32) rfl (by decide) rfl (L' := #[.val (.ref a1), .val (.int (1 : Int32)), .val (.int (1 : Int32)), .val (.ref r1), .val (.int (0 : Int32))]) rfl d19_23 rfl ?_
  refine o_iinc H3 (1 : Int32) (1 : Int32) rfl (by decide) rfl (L' := #[.val (.ref a1), .val (.int (1 : Int32)), .val (.int (1 : Int32)), .val (.ref r1), .val (.int (1 : Int32))]) rfl d19_26 rfl ?_
  refine o_goto H3 d19_29 (pt := 8) (by decide) (by decide) ?_
  refine o_iload H3 rfl d19_8 rfl ?_
  refine o_iloadN H3 rfl d19_10 rfl ?_
  refine o_icmp_t H3 d19_11 (by decide) (pt := 32) (by decide) (by decide) ?_
  refine o_aloadN H3 rfl rfl d19_32 rfl ?_
  exact o_areturn H3 rfl rfl rfl rfl d19_33 hst (fun _ q => q) (by decide) (by decide) ⟨_, rfl, k4, AO3, y1⟩
theorem d10_0 : decode jdk_52_method_21_code 0 = .ok (.iconst 0, 1) := by decide +kernel
theorem d10_1 : decode jdk_52_method_21_code 1 = .ok (.istore 5, 2) := by decide +kernel
theorem d10_3 : decode jdk_52_method_21_code 3 = .ok (.iload 5, 2) := by decide +kernel
theorem d10_5 : decode jdk_52_method_21_code 5 = .ok (.iload 4, 2) := by decide +kernel
theorem d10_7 : decode jdk_52_method_21_code 7 = .ok (.if_icmp .ge 37, 3) := by decide +kernel
theorem d10_10 : decode jdk_52_method_21_code 10 = .ok (.aload_n 0, 1) := by decide +kernel
theorem d10_11 : decode jdk_52_method_21_code 11 = .ok (.iload_n 1, 1) := by decide +kernel
theorem d10_12 : decode jdk_52_method_21_code 12 = .ok (.caload, 1) := by decide +kernel
theorem d10_13 : decode jdk_52_method_21_code 13 = .ok (.istore 6, 2) := by decide +kernel
theorem d10_15 : decode jdk_52_method_21_code 15 = .ok (.iload 6, 2) := by decide +kernel
theorem d10_17 : decode jdk_52_method_21_code 17 = .ok (.sipush 255, 3) := by decide +kernel
theorem d10_20 : decode jdk_52_method_21_code 20 = .ok (.if_icmp .le 6, 3) := by decide +kernel
theorem d10_23 : decode jdk_52_method_21_code 23 = .ok (.iload 5, 2) := by decide +kernel
theorem d10_25 : decode jdk_52_method_21_code 25 = .ok (.ireturn, 1) := by decide +kernel
theorem d10_26 : decode jdk_52_method_21_code 26 = .ok (.aload_n 2, 1) := by decide +kernel
theorem d10_27 : decode jdk_52_method_21_code 27 = .ok (.iload_n 3, 1) := by decide +kernel
theorem d10_28 : decode jdk_52_method_21_code 28 = .ok (.iload 6, 2) := by decide +kernel
theorem d10_30 : decode jdk_52_method_21_code 30 = .ok (.i2b, 1) := by decide +kernel
theorem d10_31 : decode jdk_52_method_21_code 31 = .ok (.bastore, 1) := by decide +kernel
theorem d10_32 : decode jdk_52_method_21_code 32 = .ok (.iinc 1 1, 3) := by decide +kernel
theorem d10_35 : decode jdk_52_method_21_code 35 = .ok (.iinc 3 1, 3) := by decide +kernel
theorem d10_38 : decode jdk_52_method_21_code 38 = .ok (.iinc 5 1, 3) := by decide +kernel
theorem d10_41 : decode jdk_52_method_21_code 41 = .ok (.goto (-38), 3) := by decide +kernel
theorem d10_44 : decode jdk_52_method_21_code 44 = .ok (.iload 4, 2) := by decide +kernel
theorem d10_46 : decode jdk_52_method_21_code 46 = .ok (.ireturn, 1) := by decide +kernel
theorem pn10 : plainFor (⟨"java/lang/StringUTF16", "compress", "([CI[BII)I"⟩ : MethodName) = true := plainFor_of_name (by first | (simp [plainName, overriddenIn]; done) | decide +kernel)
theorem pd10 : parseMethodDescriptor "([CI[BII)I" = some ⟨[(.array .char), .int, (.array .byte), .int, .int], some .int⟩ := by decide +kernel
set_option maxRecDepth 65536 in
set_option maxHeartbeats 40000000 in
theorem rm10_1 (l : Launch) (Z : State) (a0 : Array Value) (hw : ∀ d ∈ tables_1, d.before a0 Z = true) (a1 : Addr) (a2 : Addr) (I : Vm → Prop) (hst : oSt I) (x0 : Int32) (h0 : Heap) (n0 : Nat) (Z0 : n0 ≤ h0.size) (AV1 : oA .char Z h0 a1 [(.int x0)]) (AV2 : oA .byte Z h0 a2 [(.int 0)]) (g_a2 : n0 ≤ a2) (n12 : a1 ≠ a2) :
    oC l Z n0 I (fun _ => I) (⟨"java/lang/StringUTF16", "compress", "([CI[BII)I"⟩ : MethodName) jdk_52_method_21_code 7 (some .int) ({ frames := 0, cells := 0, slots := 0, locals := 0 } : Room) 0 0 #[(.ref a1), (.int (0 : Int32)), (.ref a2), (.int (0 : Int32)), (.int (1 : Int32))] h0 (fun v h => ∃ k, v = some (.int k) ∧ Keep h0 h [a2] ∧ ((k = (1 : Int32) ∧ oA .byte Z h a2 (([x0] : List Int32).map own_lat) ∧ ∀ u ∈ ([x0] : List Int32), ¬ 255 < u) ∨ ∃ j, k.toInt = ((j : Nat) : Int) ∧ j < 1 ∧ ∃ x, ([x0] : List Int32)[j]? = some x ∧ 255 < x)) := by
  refine oC.of (b := false) (L := #[.val (.ref a1), .val (.int (0 : Int32)), .val (.ref a2), .val (.int (0 : Int32)), .val (.int (1 : Int32)), .unset, .unset]) pn10 Z0 (fun q => (nomatch q)) (fun m => by first | (simp [entryFrame, mkF, argsToLocals, Value.category]; done) | rfl) ?_
  intro p e s m below meth c T H
  refine o_iconst H (0 : Int32) rfl d10_0 rfl ?_
  refine o_istore H (L' := #[.val (.ref a1), .val (.int (0 : Int32)), .val (.ref a2), .val (.int (0 : Int32)), .val (.int (1 : Int32)), .val (.int (0 : Int32)), .unset]) rfl d10_1 rfl ?_
  refine o_iload H rfl d10_3 rfl ?_
  refine o_iload H rfl d10_5 rfl ?_
  refine o_icmp_f H d10_7 (by decide) rfl ?_
  refine o_aloadN H rfl rfl d10_10 rfl ?_
  refine o_iloadN H rfl d10_11 rfl ?_
  refine o_caload H 0 (.int x0) AV1 (by decide) rfl d10_12 rfl ?_
  refine o_istore H (L' := #[.val (.ref a1), .val (.int (0 : Int32)), .val (.ref a2), .val (.int (0 : Int32)), .val (.int (1 : Int32)), .val (.int (0 : Int32)), .val (.int x0)]) rfl d10_13 rfl ?_
  refine o_iload H rfl d10_15 rfl ?_
  refine o_sipush H (255 : Int32) rfl d10_17 rfl ?_
  refine o_icmp_le H d10_20 (pt := 26) (by decide) (by decide) rfl ?_ ?_
  · intro c20_1
    refine o_aloadN H rfl rfl d10_26 rfl ?_
    refine o_iloadN H rfl d10_27 rfl ?_
    refine o_iload H rfl d10_28 rfl ?_
    refine o_i2b H d10_30 rfl ?_
    refine o_bastore H 0 AV2 (by decide) (Nat.le_of_ble_eq_true rfl) g_a2 d10_31 rfl ?_
    intro T2 h2 H2 W2 A2
    have k3 := (Keep.refl h0 [a2]).wr W2 (Or.inl (by simp))
    have f4 := AV1.other W2 n12
    have f5 : oA .byte Z h2 a2 [(own_lat x0)] := A2
    refine o_iinc H2 (1 : Int32) (1 : Int32) rfl (by decide) rfl (L' := #[.val (.ref a1), .val (.int (1 : Int32)), .val (.ref a2), .val (.int (0 : Int32)), .val (.int (1 : Int32)), .val (.int (0 : Int32)), .val (.int x0)]) rfl d10_32 rfl ?_
    refine o_iinc H2 (1 : Int32) (1 : Int32) rfl (by decide) rfl (L' := #[.val (.ref a1), .val (.int (1 : Int32)), .val (.ref a2), .val (.int (1 : Int32)), .val (.int (1 : Int32)), .val (.int (0 : Int32)), .val (.int x0)]) rfl d10_35 rfl ?_
    refine o_iinc H2 (1 : Int32) (1 : Int32) rfl (by decide) rfl (L' := #[.val (.ref a1), .val (.int (1 : Int32)), .val (.ref a2), .val (.int (1 : Int32)), .val (.int (1 : Int32)), .val (.int (1 : Int32)), .val (.int x0)]) rfl d10_38 rfl ?_
    refine o_goto H2 d10_41 (pt := 3) (by decide) (by decide) ?_
    refine o_iload H2 rfl d10_3 rfl ?_
    refine o_iload H2 rfl d10_5 rfl ?_
    refine o_icmp_t H2 d10_7 (by decide) (pt := 44) (by decide) (by decide) ?_
    refine o_iload H2 rfl d10_44 rfl ?_
    have ha : ∀ u ∈ ([x0] : List Int32), ¬ 255 < u := by
      intro u hu
      simp only [List.mem_cons, List.not_mem_nil, or_false] at hu
      rcases hu with rfl <;> assumption
    exact o_ireturn H2 rfl d10_46 hst (fun _ q => q) (by decide) (by decide) ⟨_, rfl, k3, Or.inl ⟨rfl, f5, ha⟩⟩
  · intro c20_1
    refine o_iload H rfl d10_23 rfl ?_
    exact o_ireturn H rfl d10_25 hst (fun _ q => q) (by decide) (by decide) ⟨_, rfl, (Keep.refl h0 [a2]), Or.inr ⟨0, by decide, by decide, x0, rfl, c20_1⟩⟩
theorem d9_0 : decode jdk_52_method_16_code 0 = .ok (.iload_n 2, 1) := by decide +kernel
theorem d9_1 : decode jdk_52_method_16_code 1 = .ok (.newarray .byte, 2) := by decide +kernel
theorem d9_3 : decode jdk_52_method_16_code 3 = .ok (.astore_n 3, 1) := by decide +kernel
theorem d9_4 : decode jdk_52_method_16_code 4 = .ok (.aload_n 0, 1) := by decide +kernel
theorem d9_5 : decode jdk_52_method_16_code 5 = .ok (.iload_n 1, 1) := by decide +kernel
theorem d9_6 : decode jdk_52_method_16_code 6 = .ok (.aload_n 3, 1) := by decide +kernel
theorem d9_7 : decode jdk_52_method_16_code 7 = .ok (.iconst 0, 1) := by decide +kernel
theorem d9_8 : decode jdk_52_method_16_code 8 = .ok (.iload_n 2, 1) := by decide +kernel
theorem d9_9 : decode jdk_52_method_16_code 9 = .ok (.invokestatic 115, 3) := by decide +kernel
theorem d9_12 : decode jdk_52_method_16_code 12 = .ok (.istore 4, 2) := by decide +kernel
theorem d9_14 : decode jdk_52_method_16_code 14 = .ok (.iload 4, 2) := by decide +kernel
theorem d9_16 : decode jdk_52_method_16_code 16 = .ok (.iload_n 2, 1) := by decide +kernel
theorem d9_17 : decode jdk_52_method_16_code 17 = .ok (.if_icmp .eq 40, 3) := by decide +kernel
theorem d9_20 : decode jdk_52_method_16_code 20 = .ok (.aload_n 0, 1) := by decide +kernel
theorem d9_21 : decode jdk_52_method_16_code 21 = .ok (.iload_n 1, 1) := by decide +kernel
theorem d9_22 : decode jdk_52_method_16_code 22 = .ok (.iload_n 2, 1) := by decide +kernel
theorem d9_23 : decode jdk_52_method_16_code 23 = .ok (.invokestatic 119, 3) := by decide +kernel
theorem d9_26 : decode jdk_52_method_16_code 26 = .ok (.astore 5, 2) := by decide +kernel
theorem d9_28 : decode jdk_52_method_16_code 28 = .ok (.aload 5, 2) := by decide +kernel
theorem d9_30 : decode jdk_52_method_16_code 30 = .ok (.iload 4, 2) := by decide +kernel
theorem d9_32 : decode jdk_52_method_16_code 32 = .ok (.invokestatic 71, 3) := by decide +kernel
theorem d9_35 : decode jdk_52_method_16_code 35 = .ok (.sipush 255, 3) := by decide +kernel
theorem d9_38 : decode jdk_52_method_16_code 38 = .ok (.if_icmp .gt 16, 3) := by decide +kernel
theorem d9_54 : decode jdk_52_method_16_code 54 = .ok (.aload 5, 2) := by decide +kernel
theorem d9_56 : decode jdk_52_method_16_code 56 = .ok (.areturn, 1) := by decide +kernel
theorem d9_57 : decode jdk_52_method_16_code 57 = .ok (.aload_n 3, 1) := by decide +kernel
theorem d9_58 : decode jdk_52_method_16_code 58 = .ok (.areturn, 1) := by decide +kernel
theorem pn9 : plainFor (⟨"java/lang/StringUTF16", "compress", "([CII)[B"⟩ : MethodName) = true := plainFor_of_name (by first | (simp [plainName, overriddenIn]; done) | decide +kernel)
theorem pd9 : parseMethodDescriptor "([CII)[B" = some ⟨[(.array .char), .int, .int], some (.array .byte)⟩ := by decide +kernel
set_option maxRecDepth 65536 in
set_option maxHeartbeats 40000000 in
theorem rm9_1 (l : Launch) (Z : State) (a0 : Array Value) (hw : ∀ d ∈ tables_1, d.before a0 Z = true) (a1 : Addr) (I : Vm → Prop) (hst : oSt I) (cs : Int32) (fm : Value) (x0 : Int32) (h0 : Heap) (n0 : Nat) (Z0 : n0 ≤ h0.size) (AV1 : oA .char Z h0 a1 [(.int x0)]) (hch : ∀ u ∈ ([x0] : List Int32), own_chr u) (WW : own_W Z h0 cs fm) :
    oC l Z n0 I (fun _ => I) (⟨"java/lang/StringUTF16", "compress", "([CII)[B"⟩ : MethodName) jdk_52_method_16_code 6 (some (.array .byte)) ({ frames := 3, cells := 2, slots := 12, locals := 44 } : Room) 2 12 #[(.ref a1), (.int (0 : Int32)), (.int (1 : Int32))] h0 (fun v h => ∃ r co bs, v = some (.ref r) ∧ Keep h0 h [] ∧ h0.size ≤ r ∧ oA .byte Z h r bs ∧ own_S ([x0] : List Int32) co bs) := by
  refine oC.of (b := false) (L := #[.val (.ref a1), .val (.int (0 : Int32)), .val (.int (1 : Int32)), .unset, .unset, .unset]) pn9 Z0 (fun q => (nomatch q)) (fun m => by first | (simp [entryFrame, mkF, argsToLocals, Value.category]; done) | rfl) ?_
  intro p e s m below meth c T H
  refine o_iloadN H rfl d9_0 rfl ?_
  refine o_newarr (aty := .byte) H 1 1 (w21 hw) (by decide) (by decide) (by decide) d9_1 rfl (by decide) (by decide) ?_
  intro T1 h1 b1 g1 H1 E1 A1
  have ne1_a1 : a1 ≠ b1 := by rw [g1]; exact Nat.ne_of_lt (AV1).lt
  have z1 : n0 ≤ b1 := by rw [g1]; exact H.le
  have y1 : h0.size ≤ b1 := by rw [g1]; exact (Keep.refl h0 []).1
  have k2 := (Keep.refl h0 []).ext E1
  have f3 : oA .byte Z h1 b1 [(.int 0)] := A1
  refine o_astoreN H1 (L' := #[.val (.ref a1), .val (.int (0 : Int32)), .val (.int (1 : Int32)), .val (.ref b1), .unset, .unset]) rfl rfl d9_3 rfl ?_
  refine o_aloadN H1 rfl rfl d9_4 rfl ?_
  refine o_iloadN H1 rfl d9_5 rfl ?_
  refine o_aloadN H1 rfl rfl d9_6 rfl ?_
  refine o_iconst H1 (0 : Int32) rfl d9_7 rfl ?_
  refine o_iloadN H1 rfl d9_8 rfl ?_
  refine o_static H1 [(.ref a1), (.int (0 : Int32)), (.ref b1), (.int (0 : Int32)), (.int (1 : Int32))] [] (rm10_1 l Z a0 hw a1 b1 I hst x0 h1 n0 H1.le (AV1.ext (o_kext k2)) f3 z1 ne1_a1) (w53 hw) (w54 hw) (w51 hw) (w55 hw) (by decide) (lenOf pd10 rfl) rfl rfl (by decide) (Nat.le_of_ble_eq_true rfl) (by decide) (by decide) d9_9 rfl (fun _ q => q) hst ?_
  intro T4 v4 h4 H4 q4
  obtain ⟨k4, rfl, K4, hk4⟩ := q4
  have k5 := k2.trans K4 (allS (Or.inr y1) all0)
  show oG p e below s n0 _ _ _ _ (T4.setTop (mkF m 12 #[.val (.ref a1), .val (.int (0 : Int32)), .val (.int (1 : Int32)), .val (.ref b1), .unset, .unset] [(.int k4)]))
  refine o_istore H4 (L' := #[.val (.ref a1), .val (.int (0 : Int32)), .val (.int (1 : Int32)), .val (.ref b1), .val (.int k4), .unset]) rfl d9_12 rfl ?_
  rcases hk4 with ⟨hkn, AD, hall⟩ | ⟨j, hj, hjn, x, hx, hgt⟩
  · subst hkn
    refine o_iload H4 rfl d9_14 rfl ?_
    refine o_iloadN H4 rfl d9_16 rfl ?_
    refine o_icmp_t H4 d9_17 (by decide) (pt := 57) (by decide) (by decide) ?_
    refine o_aloadN H4 rfl rfl d9_57 rfl ?_
    exact o_areturn H4 rfl rfl rfl rfl d9_58 hst (fun _ q => q) (by decide) (by decide) ⟨_, _, _, rfl, k5, y1, AD, Or.inl ⟨rfl, rfl, hall⟩⟩
  · have hxx := hch _ (List.mem_of_getElem? hx)
    refine o_iload H4 rfl d9_14 rfl ?_
    refine o_iloadN H4 rfl d9_16 rfl ?_
    refine o_icmp_f H4 d9_17 (XT.ii_eq_f (own_kn hj hjn (by decide))) rfl ?_
    refine o_aloadN H4 rfl rfl d9_20 rfl ?_
    refine o_iloadN H4 rfl d9_21 rfl ?_
    refine o_iloadN H4 rfl d9_22 rfl ?_
    refine o_static H4 [(.ref a1), (.int (0 : Int32)), (.int (1 : Int32))] [] (rm19_1 l Z a0 hw a1 I hst cs fm x0 h4 n0 H4.le (AV1.ext (o_kext k5)) (WW.ext (o_kext k5))) (w88 hw) (w89 hw) (w51 hw) (w90 hw) (by decide) (lenOf pd19 rfl) rfl rfl (by decide) (Nat.le_of_ble_eq_true rfl) (by decide) (by decide) d9_23 rfl (fun _ q => q) hst ?_
    intro T6 v6 h6 H6 q6
    obtain ⟨r6, rfl, K6, A6, y06⟩ := q6
    have k7 := k5.trans K6 all0
    have y6 : h0.size ≤ r6 := Nat.le_trans (k5).1 y06
    show oG p e below s n0 _ _ _ _ (T6.setTop (mkF m 26 #[.val (.ref a1), .val (.int (0 : Int32)), .val (.int (1 : Int32)), .val (.ref b1), .val (.int k4), .unset] [(.ref r6)]))
    refine o_astore H6 (L' := #[.val (.ref a1), .val (.int (0 : Int32)), .val (.int (1 : Int32)), .val (.ref b1), .val (.int k4), .val (.ref r6)]) rfl rfl d9_26 rfl ?_
    refine o_aload H6 rfl rfl d9_28 rfl ?_
    refine o_iload H6 rfl d9_30 rfl ?_
    refine o_static H6 [(.ref r6), (.int k4)] [] (rm23 l Z a0 hw r6 k4 I hst (own_utf ([x0] : List Int32)) j x cs fm h6 n0 H6.le A6 hj (by omega) (own_utf_get hx).1 (own_utf_get hx).2 hxx (WW.ext (o_kext k7))) (w104 hw) (w105 hw) (w51 hw) (w106 hw) (by decide) (lenOf pd23 rfl) rfl rfl (by decide) (Nat.le_of_ble_eq_true rfl) (by decide) (by decide) d9_32 rfl (fun _ q => q) hst ?_
    intro T8 v8 h8 H8 q8
    obtain ⟨rfl, rfl⟩ := q8
    show oG p e below s n0 _ _ _ _ (T8.setTop (mkF m 35 #[.val (.ref a1), .val (.int (0 : Int32)), .val (.int (1 : Int32)), .val (.ref b1), .val (.int k4), .val (.ref r6)] [(.int x)]))
    refine o_sipush H8 (255 : Int32) rfl d9_35 rfl ?_
    refine o_icmp_t H8 d9_38 (XT.ii_gt_t hgt) (pt := 54) (by decide) (by decide) ?_
    refine o_aload H8 rfl rfl d9_54 rfl ?_
    exact o_areturn H8 rfl rfl rfl rfl d9_56 hst (fun _ q => q) (by decide) (by decide) ⟨_, _, _, rfl, k7, y6, A6, Or.inr ⟨rfl, rfl⟩⟩
set_option maxRecDepth 65536 in
set_option maxHeartbeats 40000000 in
theorem rm21_2 (l : Launch) (Z : State) (a0 : Array Value) (hw : ∀ d ∈ tables_1, d.before a0 Z = true)  (I : Vm → Prop) (hst : oSt I)  (h0 : Heap) (n0 : Nat) (Z0 : n0 ≤ h0.size)  :
    oC l Z n0 I (fun _ => I) (⟨"java/lang/StringUTF16", "newBytesLength", "(I)I"⟩ : MethodName) jdk_52_method_3_code 1 (some .int) ({ frames := 0, cells := 0, slots := 0, locals := 0 } : Room) 0 0 #[(.int (2 : Int32))] h0 (fun v h => v = some (.int 4) ∧ h0 = h) := by
  refine oC.of (b := false) (L := #[.val (.int (2 : Int32))]) pn21 Z0 (fun q => (nomatch q)) (fun m => by first | (simp [entryFrame, mkF, argsToLocals, Value.category]; done) | rfl) ?_
  intro p e s m below meth c T H
  refine o_iloadN H rfl d21_0 rfl ?_
  refine o_if_t H d21_1 (by decide) (pt := 12) (by decide) (by decide) ?_
  refine o_iloadN H rfl d21_12 rfl ?_
  refine o_ldcI H (1073741823 : Int32) (w97 hw) d21_13 rfl ?_
  refine o_icmp_t H d21_15 (by decide) (pt := 55) (by decide) (by decide) ?_
  refine o_iloadN H rfl d21_55 rfl ?_
  refine o_iconst H (1 : Int32) rfl d21_56 rfl ?_
  refine o_ishl H d21_57 rfl ?_
  refine o_fold (4 : Int32) (by decide) ?_
  exact o_ireturn H rfl d21_58 hst (fun _ q => q) (by decide) (by decide) ⟨rfl, rfl⟩
set_option maxRecDepth 65536 in
set_option maxHeartbeats 40000000 in
theorem rm20_2 (l : Launch) (Z : State) (a0 : Array Value) (hw : ∀ d ∈ tables_1, d.before a0 Z = true)  (I : Vm → Prop) (hst : oSt I)  (h0 : Heap) (n0 : Nat) (Z0 : n0 ≤ h0.size)  :
    oC l Z n0 I (fun _ => I) (⟨"java/lang/StringUTF16", "newBytesFor", "(I)[B"⟩ : MethodName) jdk_52_method_2_code 1 (some (.array .byte)) ({ frames := 1, cells := 1, slots := 8, locals := 12 } : Room) 1 8 #[(.int (2 : Int32))] h0 (fun v h => ∃ r, v = some (.ref r) ∧ Keep h0 h [] ∧ oA .byte Z h r [(.int 0), (.int 0), (.int 0), (.int 0)] ∧ n0 ≤ r ∧ h0.size ≤ r) := by
  refine oC.of (b := false) (L := #[.val (.int (2 : Int32))]) pn20 Z0 (fun q => (nomatch q)) (fun m => by first | (simp [entryFrame, mkF, argsToLocals, Value.category]; done) | rfl) ?_
  intro p e s m below meth c T H
  refine o_iloadN H rfl d20_0 rfl ?_
  refine o_static H [(.int (2 : Int32))] [] (rm21_2 l Z a0 hw  I hst  h0 n0 H.le ) (w94 hw) (w95 hw) (w51 hw) (w96 hw) (by decide) (lenOf pd21 rfl) rfl rfl (by decide) (Nat.le_of_ble_eq_true rfl) (by decide) (by decide) d20_1 rfl (fun _ q => q) hst ?_
  intro T1 v1 h1 H1 q1
  obtain ⟨rfl, rfl⟩ := q1
  show oG p e below s n0 _ _ _ _ (T1.setTop (mkF m 4 #[.val (.int (2 : Int32))] [(.int (4 : Int32))]))
  refine o_newarr (aty := .byte) H1 4 4 (w21 hw) (by decide) (by decide) (by decide) d20_4 rfl (by decide) (by decide) ?_
  intro T2 h2 b2 g2 H2 E2 A2
  have z2 : n0 ≤ b2 := by rw [g2]; exact H1.le
  have y2 : h0.size ≤ b2 := by rw [g2]; exact (Keep.refl h0 []).1
  have k3 := (Keep.refl h0 []).ext E2
  have f4 : oA .byte Z h2 b2 [(.int 0), (.int 0), (.int 0), (.int 0)] := A2
  exact o_areturn H2 rfl rfl rfl rfl d20_6 hst (fun _ q => q) (by decide) (by decide) ⟨_, rfl, k3, f4, z2, y2⟩
set_option maxRecDepth 65536 in
set_option maxHeartbeats 40000000 in
theorem rm19_2 (l : Launch) (Z : State) (a0 : Array Value) (hw : ∀ d ∈ tables_1, d.before a0 Z = true) (a1 : Addr) (I : Vm → Prop) (hst : oSt I) (cs : Int32) (fm : Value) (x0 x1 : Int32) (h0 : Heap) (n0 : Nat) (Z0 : n0 ≤ h0.size) (AV1 : oA .char Z h0 a1 [(.int x0), (.int x1)]) (WW : own_W Z h0 cs fm) :
    oC l Z n0 I (fun _ => I) (⟨"java/lang/StringUTF16", "toBytes", "([CII)[B"⟩ : MethodName) jdk_52_method_14_code 5 (some (.array .byte)) ({ frames := 2, cells := 1, slots := 8, locals := 26 } : Room) 1 8 #[(.ref a1), (.int (0 : Int32)), (.int (2 : Int32))] h0 (fun v h => ∃ r, v = some (.ref r) ∧ Keep h0 h [] ∧ oA .byte Z h r (own_utf ([x0, x1] : List Int32)) ∧ h0.size ≤ r) := by
  refine oC.of (b := false) (L := #[.val (.ref a1), .val (.int (0 : Int32)), .val (.int (2 : Int32)), .unset, .unset]) pn19 Z0 (fun q => (nomatch q)) (fun m => by first | (simp [entryFrame, mkF, argsToLocals, Value.category]; done) | rfl) ?_
  intro p e s m below meth c T H
  refine o_iloadN H rfl d19_0 rfl ?_
  refine o_static H [(.int (2 : Int32))] [] (rm20_2 l Z a0 hw  I hst  h0 n0 H.le ) (w91 hw) (w92 hw) (w51 hw) (w93 hw) (by decide) (lenOf pd20 rfl) rfl rfl (by decide) (Nat.le_of_ble_eq_true rfl) (by decide) (by decide) d19_1 rfl (fun _ q => q) hst ?_
  intro T1 v1 h1 H1 q1
  obtain ⟨r1, rfl, K1, A1, z1, y01⟩ := q1
  have k2 := (Keep.refl h0 []).trans K1 all0
  have y1 : h0.size ≤ r1 := Nat.le_trans ((Keep.refl h0 [])).1 y01
  have na1 : a1 ≠ r1 := Nat.ne_of_lt (Nat.lt_of_lt_of_le AV1.lt y1)
  show oG p e below s n0 _ _ _ _ (T1.setTop (mkF m 4 #[.val (.ref a1), .val (.int (0 : Int32)), .val (.int (2 : Int32)), .unset, .unset] [(.ref r1)]))
  refine o_astoreN H1 (L' := #[.val (.ref a1), .val (.int (0 : Int32)), .val (.int (2 : Int32)), .val (.ref r1), .unset]) rfl rfl d19_4 rfl ?_
  refine o_iconst H1 (0 : Int32) rfl d19_5 rfl ?_
  refine o_istore H1 (L' := #[.val (.ref a1), .val (.int (0 : Int32)), .val (.int (2 : Int32)), .val (.ref r1), .val (.int (0 : Int32))]) rfl d19_6 rfl ?_
  refine o_iload H1 rfl d19_8 rfl ?_
  refine o_iloadN H1 rfl d19_10 rfl ?_
  refine o_icmp_f H1 d19_11 (by decide) rfl ?_
  refine o_aloadN H1 rfl rfl d19_14 rfl ?_
  refine o_iload H1 rfl d19_15 rfl ?_
  refine o_aloadN H1 rfl rfl d19_17 rfl ?_
  refine o_iloadN H1 rfl d19_18 rfl ?_
  refine o_caload H1 0 (.int x0) (AV1.ext (o_kext k2)) (by decide) rfl d19_19 rfl ?_
  refine o_static H1 [(.ref r1), (.int (0 : Int32)), (.int x0)] [] (rm22 l Z a0 hw r1 (0 : Int32) x0 I hst [(.int 0), (.int 0), (.int 0), (.int 0)] 0 cs fm h1 n0 H1.le A1 z1 (by decide) (by decide) (Nat.le_of_ble_eq_true rfl) (WW.ext (o_kext k2))) (w98 hw) (w99 hw) (w51 hw) (w100 hw) (by decide) (lenOf pd22 rfl) rfl rfl (by decide) (Nat.le_of_ble_eq_true rfl) (by decide) (by decide) d19_20 rfl (fun _ q => q) hst ?_
  intro T3 v3 h3 H3 q3
  obtain ⟨rfl, K3, A3⟩ := q3
  have k4 := k2.trans K3 (allS (Or.inr y1) all0)
  have AO3 : oA .byte Z h3 r1 [(own_lo x0), (own_hi x0), (.int 0), (.int 0)] := A3
  show oG p e below s n0 _ _ _ _ (T3.setTop (mkF m 23 #[.val (.ref a1), .val (.int (0 : Int32)), .val (.int (2 : Int32)), .val (.ref r1), .val (.int (0 : Int32))] []))
  refine o_iinc H3 (1 : Int32) (1 : Int32) rfl (by decide) rfl (L' := #[.val (.ref a1), .val (.int (1 : Int32)), .val (.int (2 : Int32)), .val (.ref r1), .val (.int (0 : Int32))]) rfl d19_23 rfl ?_
  refine o_iinc H3 (1 : Int32) (1 : Int32) rfl (by decide) rfl (L' := #[.val (.ref a1), .val (.int (1 : Int32)), .val (.int (2 : Int32)), .val (.ref r1), .val (.int (1 : Int32))]) rfl d19_26 rfl ?_
  refine o_goto H3 d19_29 (pt := 8) (by decide) (by decide) ?_
  refine o_iload H3 rfl d19_8 rfl ?_
  refine o_iloadN H3 rfl d19_10 rfl ?_
  refine o_icmp_f H3 d19_11 (by decide) rfl ?_
  refine o_aloadN H3 rfl rfl d19_14 rfl ?_
  refine o_iload H3 rfl d19_15 rfl ?_
  refine o_aloadN H3 rfl rfl d19_17 rfl ?_
  refine o_iloadN H3 rfl d19_18 rfl ?_
  refine o_caload H3 1 (.int x1) (AV1.ext (o_kext k4)) (by decide) rfl d19_19 rfl ?_
  refine o_static H3 [(.ref r1), (.int (1 : Int32)), (.int x1)] [] (rm22 l Z a0 hw r1 (1 : Int32) x1 I hst [(own_lo x0), (own_hi x0), (.int 0), (.int 0)] 1 cs fm h3 n0 H3.le AO3 z1 (by decide) (by decide) (Nat.le_of_ble_eq_true rfl) (WW.ext (o_kext k4))) (w98 hw) (w99 hw) (w51 hw) (w100 hw) (by decide) (lenOf pd22 rfl) rfl rfl (by decide) (Nat.le_of_ble_eq_true rfl) (by decide) (by decide) d19_20 rfl (fun _ q => q) hst ?_
  intro T5 v5 h5 H5 q5
  obtain ⟨rfl, K5, A5⟩ := q5
  have k6 := k4.trans K5 (allS (Or.inr y1) all0)
  have AO5 : oA .byte Z h5 r1 [(own_lo x0), (own_hi x0), (own_lo x1), (own_hi x1)] := A5
  show oG p e below s n0 _ _ _ _ (T5.setTop (mkF m 23 #[.val (.ref a1), .val (.int (1 : Int32)), .val (.int (2 : Int32)), .val (.ref r1), .val (.int (1 : Int32))] []))
  refine o_iinc H5 (1 : Int32) (2 : Int32) rfl (by decide) rfl (L' := #[.val (.ref a1), .val (.int (2 : Int32)), .val (.int (2 : Int32)), .val (.ref r1), .val (.int (1 : Int32))]) rfl d19_23 rfl ?_
  refine o_iinc H5 (1 : Int32) (2 : Int32) rfl (by decide) rfl (L' := #[.val (.ref a1), .val (.int (2 : Int32)), .val (.int (2 : Int32)), .val (.ref r1), .val (.int (2 : Int32))]) rfl d19_26 rfl ?_
  refine o_goto H5 d19_29 (pt := 8) (by decide) (by decide) ?_
  refine o_iload H5 rfl d19_8 rfl ?_
  refine o_iloadN H5 rfl d19_10 rfl ?_
  refine o_icmp_t H5 d19_11 (by decide) (pt := 32) (by decide) (by decide) ?_
  refine o_aloadN H5 rfl rfl d19_32 rfl ?_
  exact o_areturn H5 rfl rfl rfl rfl d19_33 hst (fun _ q => q) (by decide) (by decide) ⟨_, rfl, k6, AO5, y1⟩
set_option maxRecDepth 65536 in
set_option maxHeartbeats 40000000 in
theorem rm10_2 (l : Launch) (Z : State) (a0 : Array Value) (hw : ∀ d ∈ tables_1, d.before a0 Z = true) (a1 : Addr) (a2 : Addr) (I : Vm → Prop) (hst : oSt I) (x0 x1 : Int32) (h0 : Heap) (n0 : Nat) (Z0 : n0 ≤ h0.size) (AV1 : oA .char Z h0 a1 [(.int x0), (.int x1)]) (AV2 : oA .byte Z h0 a2 [(.int 0), (.int 0)]) (g_a2 : n0 ≤ a2) (n12 : a1 ≠ a2) :
    oC l Z n0 I (fun _ => I) (⟨"java/lang/StringUTF16", "compress", "([CI[BII)I"⟩ : MethodName) jdk_52_method_21_code 7 (some .int) ({ frames := 0, cells := 0, slots := 0, locals := 0 } : Room) 0 0 #[(.ref a1), (.int (0 : Int32)), (.ref a2), (.int (0 : Int32)), (.int (2 : Int32))] h0 (fun v h => ∃ k, v = some (.int k) ∧ Keep h0 h [a2] ∧ ((k = (2 : Int32) ∧ oA .byte Z h a2 (([x0, x1] : List Int32).map own_lat) ∧ ∀ u ∈ ([x0, x1] : List Int32), ¬ 255 < u) ∨ ∃ j, k.toInt = ((j : Nat) : Int) ∧ j < 2 ∧ ∃ x, ([x0, x1] : List Int32)[j]? = some x ∧ 255 < x)) := by
  refine oC.of (b := false) (L := #[.val (.ref a1), .val (.int (0 : Int32)), .val (.ref a2), .val (.int (0 : Int32)), .val (.int (2 : Int32)), .unset, .unset]) pn10 Z0 (fun q => (nomatch q)) (fun m => by first | (simp [entryFrame, mkF, argsToLocals, Value.category]; done) | rfl) ?_
  intro p e s m below meth c T H
  refine o_iconst H (0 : Int32) rfl d10_0 rfl ?_
  refine o_istore H (L' := #[.val (.ref a1), .val (.int (0 : Int32)), .val (.ref a2), .val (.int (0 : Int32)), .val (.int (2 : Int32)), .val (.int (0 : Int32)), .unset]) rfl d10_1 rfl ?_
  refine o_iload H rfl d10_3 rfl ?_
  refine o_iload H rfl d10_5 rfl ?_
  refine o_icmp_f H d10_7 (by decide) rfl ?_
  refine o_aloadN H rfl rfl d10_10 rfl ?_
  refine o_iloadN H rfl d10_11 rfl ?_
  refine o_caload H 0 (.int x0) AV1 (by decide) rfl d10_12 rfl ?_
  refine o_istore H (L' := #[.val (.ref a1), .val (.int (0 : Int32)), .val (.ref a2), .val (.int (0 : Int32)), .val (.int (2 : Int32)), .val (.int (0 : Int32)), .val (.int x0)]) rfl d10_13 rfl ?_
  refine o_iload H rfl d10_15 rfl ?_
  refine o_sipush H (255 : Int32) rfl d10_17 rfl ?_
  refine o_icmp_le H d10_20 (pt := 26) (by decide) (by decide) rfl ?_ ?_
  · intro c20_1
    refine o_aloadN H rfl rfl d10_26 rfl ?_
    refine o_iloadN H rfl d10_27 rfl ?_
    refine o_iload H rfl d10_28 rfl ?_
    refine o_i2b H d10_30 rfl ?_
    refine o_bastore H 0 AV2 (by decide) (Nat.le_of_ble_eq_true rfl) g_a2 d10_31 rfl ?_
    intro T2 h2 H2 W2 A2
    have k3 := (Keep.refl h0 [a2]).wr W2 (Or.inl (by simp))
    have f4 := AV1.other W2 n12
    have f5 : oA .byte Z h2 a2 [(own_lat x0), (.int 0)] := A2
    refine o_iinc H2 (1 : Int32) (1 : Int32) rfl (by decide) rfl (L' := #[.val (.ref a1), .val (.int (1 : Int32)), .val (.ref a2), .val (.int (0 : Int32)), .val (.int (2 : Int32)), .val (.int (0 : Int32)), .val (.int x0)]) rfl d10_32 rfl ?_
    refine o_iinc H2 (1 : Int32) (1 : Int32) rfl (by decide) rfl (L' := #[.val (.ref a1), .val (.int (1 : Int32)), .val (.ref a2), .val (.int (1 : Int32)), .val (.int (2 : Int32)), .val (.int (0 : Int32)), .val (.int x0)]) rfl d10_35 rfl ?_
    refine o_iinc H2 (1 : Int32) (1 : Int32) rfl (by decide) rfl (L' := #[.val (.ref a1), .val (.int (1 : Int32)), .val (.ref a2), .val (.int (1 : Int32)), .val (.int (2 : Int32)), .val (.int (1 : Int32)), .val (.int x0)]) rfl d10_38 rfl ?_
    refine o_goto H2 d10_41 (pt := 3) (by decide) (by decide) ?_
    refine o_iload H2 rfl d10_3 rfl ?_
    refine o_iload H2 rfl d10_5 rfl ?_
    refine o_icmp_f H2 d10_7 (by decide) rfl ?_
    refine o_aloadN H2 rfl rfl d10_10 rfl ?_
    refine o_iloadN H2 rfl d10_11 rfl ?_
    refine o_caload H2 1 (.int x1) f4 (by decide) rfl d10_12 rfl ?_
    refine o_istore H2 (L' := #[.val (.ref a1), .val (.int (1 : Int32)), .val (.ref a2), .val (.int (1 : Int32)), .val (.int (2 : Int32)), .val (.int (1 : Int32)), .val (.int x1)]) rfl d10_13 rfl ?_
    refine o_iload H2 rfl d10_15 rfl ?_
    refine o_sipush H2 (255 : Int32) rfl d10_17 rfl ?_
    refine o_icmp_le H2 d10_20 (pt := 26) (by decide) (by decide) rfl ?_ ?_
    · intro c20_6
      refine o_aloadN H2 rfl rfl d10_26 rfl ?_
      refine o_iloadN H2 rfl d10_27 rfl ?_
      refine o_iload H2 rfl d10_28 rfl ?_
      refine o_i2b H2 d10_30 rfl ?_
      refine o_bastore H2 1 f5 (by decide) (Nat.le_of_ble_eq_true rfl) g_a2 d10_31 rfl ?_
      intro T7 h7 H7 W7 A7
      have k8 := k3.wr W7 (Or.inl (by simp))
      have f9 := f4.other W7 n12
      have f10 : oA .byte Z h7 a2 [(own_lat x0), (own_lat x1)] := A7
      refine o_iinc H7 (1 : Int32) (2 : Int32) rfl (by decide) rfl (L' := #[.val (.ref a1), .val (.int (2 : Int32)), .val (.ref a2), .val (.int (1 : Int32)), .val (.int (2 : Int32)), .val (.int (1 : Int32)), .val (.int x1)]) rfl d10_32 rfl ?_
      refine o_iinc H7 (1 : Int32) (2 : Int32) rfl (by decide) rfl (L' := #[.val (.ref a1), .val (.int (2 : Int32)), .val (.ref a2), .val (.int (2 : Int32)), .val (.int (2 : Int32)), .val (.int (1 : Int32)), .val (.int x1)]) rfl d10_35 rfl ?_
      refine o_iinc H7 (1 : Int32) (2 : Int32) rfl (by decide) rfl (L' := #[.val (.ref a1), .val (.int (2 : Int32)), .val (.ref a2), .val (.int (2 : Int32)), .val (.int (2 : Int32)), .val (.int (2 : Int32)), .val (.int x1)]) rfl d10_38 rfl ?_
      refine o_goto H7 d10_41 (pt := 3) (by decide) (by decide) ?_
      refine o_iload H7 rfl d10_3 rfl ?_
      refine o_iload H7 rfl d10_5 rfl ?_
      refine o_icmp_t H7 d10_7 (by decide) (pt := 44) (by decide) (by decide) ?_
      refine o_iload H7 rfl d10_44 rfl ?_
      have ha : ∀ u ∈ ([x0, x1] : List Int32), ¬ 255 < u := by
        intro u hu
        simp only [List.mem_cons, List.not_mem_nil, or_false] at hu
        rcases hu with rfl | rfl <;> assumption
      exact o_ireturn H7 rfl d10_46 hst (fun _ q => q) (by decide) (by decide) ⟨_, rfl, k8, Or.inl ⟨rfl, f10, ha⟩⟩
    · intro c20_6
      refine o_iload H2 rfl d10_23 rfl ?_
      exact o_ireturn H2 rfl d10_25 hst (fun _ q => q) (by decide) (by decide) ⟨_, rfl, k3, Or.inr ⟨1, by decide, by decide, x1, rfl, c20_6⟩⟩
  · intro c20_1
    refine o_iload H rfl d10_23 rfl ?_
    exact o_ireturn H rfl d10_25 hst (fun _ q => q) (by decide) (by decide) ⟨_, rfl, (Keep.refl h0 [a2]), Or.inr ⟨0, by decide, by decide, x0, rfl, c20_1⟩⟩
set_option maxRecDepth 65536 in
set_option maxHeartbeats 40000000 in
theorem rm9_2 (l : Launch) (Z : State) (a0 : Array Value) (hw : ∀ d ∈ tables_1, d.before a0 Z = true) (a1 : Addr) (I : Vm → Prop) (hst : oSt I) (cs : Int32) (fm : Value) (x0 x1 : Int32) (h0 : Heap) (n0 : Nat) (Z0 : n0 ≤ h0.size) (AV1 : oA .char Z h0 a1 [(.int x0), (.int x1)]) (hch : ∀ u ∈ ([x0, x1] : List Int32), own_chr u) (WW : own_W Z h0 cs fm) :
    oC l Z n0 I (fun _ => I) (⟨"java/lang/StringUTF16", "compress", "([CII)[B"⟩ : MethodName) jdk_52_method_16_code 6 (some (.array .byte)) ({ frames := 3, cells := 2, slots := 12, locals := 44 } : Room) 2 12 #[(.ref a1), (.int (0 : Int32)), (.int (2 : Int32))] h0 (fun v h => ∃ r co bs, v = some (.ref r) ∧ Keep h0 h [] ∧ h0.size ≤ r ∧ oA .byte Z h r bs ∧ own_S ([x0, x1] : List Int32) co bs) := by
  refine oC.of (b := false) (L := #[.val (.ref a1), .val (.int (0 : Int32)), .val (.int (2 : Int32)), .unset, .unset, .unset]) pn9 Z0 (fun q => (nomatch q)) (fun m => by first | (simp [entryFrame, mkF, argsToLocals, Value.category]; done) | rfl) ?_
  intro p e s m below meth c T H
  refine o_iloadN H rfl d9_0 rfl ?_
  refine o_newarr (aty := .byte) H 2 2 (w21 hw) (by decide) (by decide) (by decide) d9_1 rfl (by decide) (by decide) ?_
  intro T1 h1 b1 g1 H1 E1 A1
  have ne1_a1 : a1 ≠ b1 := by rw [g1]; exact Nat.ne_of_lt (AV1).lt
  have z1 : n0 ≤ b1 := by rw [g1]; exact H.le
  have y1 : h0.size ≤ b1 := by rw [g1]; exact (Keep.refl h0 []).1
  have k2 := (Keep.refl h0 []).ext E1
  have f3 : oA .byte Z h1 b1 [(.int 0), (.int 0)] := A1
  refine o_astoreN H1 (L' := #[.val (.ref a1), .val (.int (0 : Int32)), .val (.int (2 : Int32)), .val (.ref b1), .unset, .unset]) rfl rfl d9_3 rfl ?_
  refine o_aloadN H1 rfl rfl d9_4 rfl ?_
  refine o_iloadN H1 rfl d9_5 rfl ?_
  refine o_aloadN H1 rfl rfl d9_6 rfl ?_
  refine o_iconst H1 (0 : Int32) rfl d9_7 rfl ?_
  refine o_iloadN H1 rfl d9_8 rfl ?_
  refine o_static H1 [(.ref a1), (.int (0 : Int32)), (.ref b1), (.int (0 : Int32)), (.int (2 : Int32))] [] (rm10_2 l Z a0 hw a1 b1 I hst x0 x1 h1 n0 H1.le (AV1.ext (o_kext k2)) f3 z1 ne1_a1) (w53 hw) (w54 hw) (w51 hw) (w55 hw) (by decide) (lenOf pd10 rfl) rfl rfl (by decide) (Nat.le_of_ble_eq_true rfl) (by decide) (by decide) d9_9 rfl (fun _ q => q) hst ?_
  intro T4 v4 h4 H4 q4
  obtain ⟨k4, rfl, K4, hk4⟩ := q4
  have k5 := k2.trans K4 (allS (Or.inr y1) all0)
  show oG p e below s n0 _ _ _ _ (T4.setTop (mkF m 12 #[.val (.ref a1), .val (.int (0 : Int32)), .val (.int (2 : Int32)), .val (.ref b1), .unset, .unset] [(.int k4)]))
  refine o_istore H4 (L' := #[.val (.ref a1), .val (.int (0 : Int32)), .val (.int (2 : Int32)), .val (.ref b1), .val (.int k4), .unset]) rfl d9_12 rfl ?_
  rcases hk4 with ⟨hkn, AD, hall⟩ | ⟨j, hj, hjn, x, hx, hgt⟩
  · subst hkn
    refine o_iload H4 rfl d9_14 rfl ?_
    refine o_iloadN H4 rfl d9_16 rfl ?_
    refine o_icmp_t H4 d9_17 (by decide) (pt := 57) (by decide) (by decide) ?_
    refine o_aloadN H4 rfl rfl d9_57 rfl ?_
    exact o_areturn H4 rfl rfl rfl rfl d9_58 hst (fun _ q => q) (by decide) (by decide) ⟨_, _, _, rfl, k5, y1, AD, Or.inl ⟨rfl, rfl, hall⟩⟩
  · have hxx := hch _ (List.mem_of_getElem? hx)
    refine o_iload H4 rfl d9_14 rfl ?_
    refine o_iloadN H4 rfl d9_16 rfl ?_
    refine o_icmp_f H4 d9_17 (XT.ii_eq_f (own_kn hj hjn (by decide))) rfl ?_
    refine o_aloadN H4 rfl rfl d9_20 rfl ?_
    refine o_iloadN H4 rfl d9_21 rfl ?_
    refine o_iloadN H4 rfl d9_22 rfl ?_
    refine o_static H4 [(.ref a1), (.int (0 : Int32)), (.int (2 : Int32))] [] (rm19_2 l Z a0 hw a1 I hst cs fm x0 x1 h4 n0 H4.le (AV1.ext (o_kext k5)) (WW.ext (o_kext k5))) (w88 hw) (w89 hw) (w51 hw) (w90 hw) (by decide) (lenOf pd19 rfl) rfl rfl (by decide) (Nat.le_of_ble_eq_true rfl) (by decide) (by decide) d9_23 rfl (fun _ q => q) hst ?_
    intro T6 v6 h6 H6 q6
    obtain ⟨r6, rfl, K6, A6, y06⟩ := q6
    have k7 := k5.trans K6 all0
    have y6 : h0.size ≤ r6 := Nat.le_trans (k5).1 y06
    show oG p e below s n0 _ _ _ _ (T6.setTop (mkF m 26 #[.val (.ref a1), .val (.int (0 : Int32)), .val (.int (2 : Int32)), .val (.ref b1), .val (.int k4), .unset] [(.ref r6)]))
    refine o_astore H6 (L' := #[.val (.ref a1), .val (.int (0 : Int32)), .val (.int (2 : Int32)), .val (.ref b1), .val (.int k4), .val (.ref r6)]) rfl rfl d9_26 rfl ?_
    refine o_aload H6 rfl rfl d9_28 rfl ?_
    refine o_iload H6 rfl d9_30 rfl ?_
    refine o_static H6 [(.ref r6), (.int k4)] [] (rm23 l Z a0 hw r6 k4 I hst (own_utf ([x0, x1] : List Int32)) j x cs fm h6 n0 H6.le A6 hj (by omega) (own_utf_get hx).1 (own_utf_get hx).2 hxx (WW.ext (o_kext k7))) (w104 hw) (w105 hw) (w51 hw) (w106 hw) (by decide) (lenOf pd23 rfl) rfl rfl (by decide) (Nat.le_of_ble_eq_true rfl) (by decide) (by decide) d9_32 rfl (fun _ q => q) hst ?_
    intro T8 v8 h8 H8 q8
    obtain ⟨rfl, rfl⟩ := q8
    show oG p e below s n0 _ _ _ _ (T8.setTop (mkF m 35 #[.val (.ref a1), .val (.int (0 : Int32)), .val (.int (2 : Int32)), .val (.ref b1), .val (.int k4), .val (.ref r6)] [(.int x)]))
    refine o_sipush H8 (255 : Int32) rfl d9_35 rfl ?_
    refine o_icmp_t H8 d9_38 (XT.ii_gt_t hgt) (pt := 54) (by decide) (by decide) ?_
    refine o_aload H8 rfl rfl d9_54 rfl ?_
    exact o_areturn H8 rfl rfl rfl rfl d9_56 hst (fun _ q => q) (by decide) (by decide) ⟨_, _, _, rfl, k7, y6, A6, Or.inr ⟨rfl, rfl⟩⟩
set_option maxRecDepth 65536 in
set_option maxHeartbeats 40000000 in
theorem rm21_3 (l : Launch) (Z : State) (a0 : Array Value) (hw : ∀ d ∈ tables_1, d.before a0 Z = true)  (I : Vm → Prop) (hst : oSt I)  (h0 : Heap) (n0 : Nat) (Z0 : n0 ≤ h0.size)  :
    oC l Z n0 I (fun _ => I) (⟨"java/lang/StringUTF16", "newBytesLength", "(I)I"⟩ : MethodName) jdk_52_method_3_code 1 (some .int) ({ frames := 0, cells := 0, slots := 0, locals := 0 } : Room) 0 0 #[(.int (3 : Int32))] h0 (fun v h => v = some (.int 6) ∧ h0 = h) := by
  refine oC.of (b := false) (L := #[.val (.int (3 : Int32))]) pn21 Z0 (fun q => (nomatch q)) (fun m => by first | (simp [entryFrame, mkF, argsToLocals, Value.category]; done) | rfl) ?_
  intro p e s m below meth c T H
  refine o_iloadN H rfl d21_0 rfl ?_
  refine o_if_t H d21_1 (by decide) (pt := 12) (by decide) (by decide) ?_
  refine o_iloadN H rfl d21_12 rfl ?_
  refine o_ldcI H (1073741823 : Int32) (w97 hw) d21_13 rfl ?_
  refine o_icmp_t H d21_15 (by decide) (pt := 55) (by decide) (by decide) ?_
  refine o_iloadN H rfl d21_55 rfl ?_
  refine o_iconst H (1 : Int32) rfl d21_56 rfl ?_
  refine o_ishl H d21_57 rfl ?_
  refine o_fold (6 : Int32) (by decide) ?_
  exact o_ireturn H rfl d21_58 hst (fun _ q => q) (by decide) (by decide) ⟨rfl, rfl⟩
set_option maxRecDepth 65536 in
set_option maxHeartbeats 40000000 in
theorem rm20_3 (l : Launch) (Z : State) (a0 : Array Value) (hw : ∀ d ∈ tables_1, d.before a0 Z = true)  (I : Vm → Prop) (hst : oSt I)  (h0 : Heap) (n0 : Nat) (Z0 : n0 ≤ h0.size)  :
    oC l Z n0 I (fun _ => I) (⟨"java/lang/StringUTF16", "newBytesFor", "(I)[B"⟩ : MethodName) jdk_52_method_2_code 1 (some (.array .byte)) ({ frames := 1, cells := 1, slots := 8, locals := 12 } : Room) 1 8 #[(.int (3 : Int32))] h0 (fun v h => ∃ r, v = some (.ref r) ∧ Keep h0 h [] ∧ oA .byte Z h r [(.int 0), (.int 0), (.int 0), (.int 0), (.int 0), (.int 0)] ∧ n0 ≤ r ∧ h0.size ≤ r) := by
  refine oC.of (b := false) (L := #[.val (.int (3 : Int32))]) pn20 Z0 (fun q => (nomatch q)) (fun m => by first | (simp [entryFrame, mkF, argsToLocals, Value.category]; done) | rfl) ?_
  intro p e s m below meth c T H
  refine o_iloadN H rfl d20_0 rfl ?_
  refine o_static H [(.int (3 : Int32))] [] (rm21_3 l Z a0 hw  I hst  h0 n0 H.le ) (w94 hw) (w95 hw) (w51 hw) (w96 hw) (by decide) (lenOf pd21 rfl) rfl rfl (by decide) (Nat.le_of_ble_eq_true rfl) (by decide) (by decide) d20_1 rfl (fun _ q => q) hst ?_
  intro T1 v1 h1 H1 q1
  obtain ⟨rfl, rfl⟩ := q1
  show oG p e below s n0 _ _ _ _ (T1.setTop (mkF m 4 #[.val (.int (3 : Int32))] [(.int (6 : Int32))]))
  refine o_newarr (aty := .byte) H1 6 6 (w21 hw) (by decide) (by decide) (by decide) d20_4 rfl (by decide) (by decide) ?_
  intro T2 h2 b2 g2 H2 E2 A2
  have z2 : n0 ≤ b2 := by rw [g2]; exact H1.le
  have y2 : h0.size ≤ b2 := by rw [g2]; exact (Keep.refl h0 []).1
  have k3 := (Keep.refl h0 []).ext E2
  have f4 : oA .byte Z h2 b2 [(.int 0), (.int 0), (.int 0), (.int 0), (.int 0), (.int 0)] := A2
  exact o_areturn H2 rfl rfl rfl rfl d20_6 hst (fun _ q => q) (by decide) (by decide) ⟨_, rfl, k3, f4, z2, y2⟩
set_option maxRecDepth 65536 in
set_option maxHeartbeats 40000000 in
theorem rm19_3 (l : Launch) (Z : State) (a0 : Array Value) (hw : ∀ d ∈ tables_1, d.before a0 Z = true) (a1 : Addr) (I : Vm → Prop) (hst : oSt I) (cs : Int32) (fm : Value) (x0 x1 x2 : Int32) (h0 : Heap) (n0 : Nat) (Z0 : n0 ≤ h0.size) (AV1 : oA .char Z h0 a1 [(.int x0), (.int x1), (.int x2)]) (WW : own_W Z h0 cs fm) :
    oC l Z n0 I (fun _ => I) (⟨"java/lang/StringUTF16", "toBytes", "([CII)[B"⟩ : MethodName) jdk_52_method_14_code 5 (some (.array .byte)) ({ frames := 2, cells := 1, slots := 8, locals := 26 } : Room) 1 8 #[(.ref a1), (.int (0 : Int32)), (.int (3 : Int32))] h0 (fun v h => ∃ r, v = some (.ref r) ∧ Keep h0 h [] ∧ oA .byte Z h r (own_utf ([x0, x1, x2] : List Int32)) ∧ h0.size ≤ r) := by
  refine oC.of (b := false) (L := #[.val (.ref a1), .val (.int (0 : Int32)), .val (.int (3 : Int32)), .unset, .unset]) pn19 Z0 (fun q => (nomatch q)) (fun m => by first | (simp [entryFrame, mkF, argsToLocals, Value.category]; done) | rfl) ?_
  intro p e s m below meth c T H
  refine o_iloadN H rfl d19_0 rfl ?_
  refine o_static H [(.int (3 : Int32))] [] (rm20_3 l Z a0 hw  I hst  h0 n0 H.le ) (w91 hw) (w92 hw) (w51 hw) (w93 hw) (by decide) (lenOf pd20 rfl) rfl rfl (by decide) (Nat.le_of_ble_eq_true rfl) (by decide) (by decide) d19_1 rfl (fun _ q => q) hst ?_
  intro T1 v1 h1 H1 q1
  obtain ⟨r1, rfl, K1, A1, z1, y01⟩ := q1
  have k2 := (Keep.refl h0 []).trans K1 all0
  have y1 : h0.size ≤ r1 := Nat.le_trans ((Keep.refl h0 [])).1 y01
  have na1 : a1 ≠ r1 := Nat.ne_of_lt (Nat.lt_of_lt_of_le AV1.lt y1)
  show oG p e below s n0 _ _ _ _ (T1.setTop (mkF m 4 #[.val (.ref a1), .val (.int (0 : Int32)), .val (.int (3 : Int32)), .unset, .unset] [(.ref r1)]))
  refine o_astoreN H1 (L' := #[.val (.ref a1), .val (.int (0 : Int32)), .val (.int (3 : Int32)), .val (.ref r1), .unset]) rfl rfl d19_4 rfl ?_
  refine o_iconst H1 (0 : Int32) rfl d19_5 rfl ?_
  refine o_istore H1 (L' := #[.val (.ref a1), .val (.int (0 : Int32)), .val (.int (3 : Int32)), .val (.ref r1), .val (.int (0 : Int32))]) rfl d19_6 rfl ?_
  refine o_iload H1 rfl d19_8 rfl ?_
  refine o_iloadN H1 rfl d19_10 rfl ?_
  refine o_icmp_f H1 d19_11 (by decide) rfl ?_
  refine o_aloadN H1 rfl rfl d19_14 rfl ?_
  refine o_iload H1 rfl d19_15 rfl ?_
  refine o_aloadN H1 rfl rfl d19_17 rfl ?_
  refine o_iloadN H1 rfl d19_18 rfl ?_
  refine o_caload H1 0 (.int x0) (AV1.ext (o_kext k2)) (by decide) rfl d19_19 rfl ?_
  refine o_static H1 [(.ref r1), (.int (0 : Int32)), (.int x0)] [] (rm22 l Z a0 hw r1 (0 : Int32) x0 I hst [(.int 0), (.int 0), (.int 0), (.int 0), (.int 0), (.int 0)] 0 cs fm h1 n0 H1.le A1 z1 (by decide) (by decide) (Nat.le_of_ble_eq_true rfl) (WW.ext (o_kext k2))) (w98 hw) (w99 hw) (w51 hw) (w100 hw) (by decide) (lenOf pd22 rfl) rfl rfl (by decide) (Nat.le_of_ble_eq_true rfl) (by decide) (by decide) d19_20 rfl (fun _ q => q) hst ?_
  intro T3 v3 h3 H3 q3
  obtain ⟨rfl, K3, A3⟩ := q3
  have k4 := k2.trans K3 (allS (Or.inr y1) all0)
  have AO3 : oA .byte Z h3 r1 [(own_lo x0), (own_hi x0), (.int 0), (.int 0), (.int 0), (.int 0)] := A3
  show oG p e below s n0 _ _ _ _ (T3.setTop (mkF m 23 #[.val (.ref a1), .val (.int (0 : Int32)), .val (.int (3 : Int32)), .val (.ref r1), .val (.int (0 : Int32))] []))
  refine o_iinc H3 (1 : Int32) (1 : Int32) rfl (by decide) rfl (L' := #[.val (.ref a1), .val (.int (1 : Int32)), .val (.int (3 : Int32)), .val (.ref r1), .val (.int (0 : Int32))]) rfl d19_23 rfl ?_
  refine o_iinc H3 (1 : Int32) (1 : Int32) rfl (by decide) rfl (L' := #[.val (.ref a1), .val (.int (1 : Int32)), .val (.int (3 : Int32)), .val (.ref r1), .val (.int (1 : Int32))]) rfl d19_26 rfl ?_
  refine o_goto H3 d19_29 (pt := 8) (by decide) (by decide) ?_
  refine o_iload H3 rfl d19_8 rfl ?_
  refine o_iloadN H3 rfl d19_10 rfl ?_
  refine o_icmp_f H3 d19_11 (by decide) rfl ?_
  refine o_aloadN H3 rfl rfl d19_14 rfl ?_
  refine o_iload H3 rfl d19_15 rfl ?_
  refine o_aloadN H3 rfl rfl d19_17 rfl ?_
  refine o_iloadN H3 rfl d19_18 rfl ?_
  refine o_caload H3 1 (.int x1) (AV1.ext (o_kext k4)) (by decide) rfl d19_19 rfl ?_
  refine o_static H3 [(.ref r1), (.int (1 : Int32)), (.int x1)] [] (rm22 l Z a0 hw r1 (1 : Int32) x1 I hst [(own_lo x0), (own_hi x0), (.int 0), (.int 0), (.int 0), (.int 0)] 1 cs fm h3 n0 H3.le AO3 z1 (by decide) (by decide) (Nat.le_of_ble_eq_true rfl) (WW.ext (o_kext k4))) (w98 hw) (w99 hw) (w51 hw) (w100 hw) (by decide) (lenOf pd22 rfl) rfl rfl (by decide) (Nat.le_of_ble_eq_true rfl) (by decide) (by decide) d19_20 rfl (fun _ q => q) hst ?_
  intro T5 v5 h5 H5 q5
  obtain ⟨rfl, K5, A5⟩ := q5
  have k6 := k4.trans K5 (allS (Or.inr y1) all0)
  have AO5 : oA .byte Z h5 r1 [(own_lo x0), (own_hi x0), (own_lo x1), (own_hi x1), (.int 0), (.int 0)] := A5
  show oG p e below s n0 _ _ _ _ (T5.setTop (mkF m 23 #[.val (.ref a1), .val (.int (1 : Int32)), .val (.int (3 : Int32)), .val (.ref r1), .val (.int (1 : Int32))] []))
  refine o_iinc H5 (1 : Int32) (2 : Int32) rfl (by decide) rfl (L' := #[.val (.ref a1), .val (.int (2 : Int32)), .val (.int (3 : Int32)), .val (.ref r1), .val (.int (1 : Int32))]) rfl d19_23 rfl ?_
  refine o_iinc H5 (1 : Int32) (2 : Int32) rfl (by decide) rfl (L' := #[.val (.ref a1), .val (.int (2 : Int32)), .val (.int (3 : Int32)), .val (.ref r1), .val (.int (2 : Int32))]) rfl d19_26 rfl ?_
  refine o_goto H5 d19_29 (pt := 8) (by decide) (by decide) ?_
  refine o_iload H5 rfl d19_8 rfl ?_
  refine o_iloadN H5 rfl d19_10 rfl ?_
  refine o_icmp_f H5 d19_11 (by decide) rfl ?_
  refine o_aloadN H5 rfl rfl d19_14 rfl ?_
  refine o_iload H5 rfl d19_15 rfl ?_
  refine o_aloadN H5 rfl rfl d19_17 rfl ?_
  refine o_iloadN H5 rfl d19_18 rfl ?_
  refine o_caload H5 2 (.int x2) (AV1.ext (o_kext k6)) (by decide) rfl d19_19 rfl ?_
  refine o_static H5 [(.ref r1), (.int (2 : Int32)), (.int x2)] [] (rm22 l Z a0 hw r1 (2 : Int32) x2 I hst [(own_lo x0), (own_hi x0), (own_lo x1), (own_hi x1), (.int 0), (.int 0)] 2 cs fm h5 n0 H5.le AO5 z1 (by decide) (by decide) (Nat.le_of_ble_eq_true rfl) (WW.ext (o_kext k6))) (w98 hw) (w99 hw) (w51 hw) (w100 hw) (by decide) (lenOf pd22 rfl) rfl rfl (by decide) (Nat.le_of_ble_eq_true rfl) (by decide) (by decide) d19_20 rfl (fun _ q => q) hst ?_
  intro T7 v7 h7 H7 q7
  obtain ⟨rfl, K7, A7⟩ := q7
  have k8 := k6.trans K7 (allS (Or.inr y1) all0)
  have AO7 : oA .byte Z h7 r1 [(own_lo x0), (own_hi x0), (own_lo x1), (own_hi x1), (own_lo x2), (own_hi x2)] := A7
  show oG p e below s n0 _ _ _ _ (T7.setTop (mkF m 23 #[.val (.ref a1), .val (.int (2 : Int32)), .val (.int (3 : Int32)), .val (.ref r1), .val (.int (2 : Int32))] []))
  refine o_iinc H7 (1 : Int32) (3 : Int32) rfl (by decide) rfl (L' := #[.val (.ref a1), .val (.int (3 : Int32)), .val (.int (3 : Int32)), .val (.ref r1), .val (.int (2 : Int32))]) rfl d19_23 rfl ?_
  refine o_iinc H7 (1 : Int32) (3 : Int32) rfl (by decide) rfl (L' := #[.val (.ref a1), .val (.int (3 : Int32)), .val (.int (3 : Int32)), .val (.ref r1), .val (.int (3 : Int32))]) rfl d19_26 rfl ?_
  refine o_goto H7 d19_29 (pt := 8) (by decide) (by decide) ?_
  refine o_iload H7 rfl d19_8 rfl ?_
  refine o_iloadN H7 rfl d19_10 rfl ?_
  refine o_icmp_t H7 d19_11 (by decide) (pt := 32) (by decide) (by decide) ?_
  refine o_aloadN H7 rfl rfl d19_32 rfl ?_
  exact o_areturn H7 rfl rfl rfl rfl d19_33 hst (fun _ q => q) (by decide) (by decide) ⟨_, rfl, k8, AO7, y1⟩
set_option maxRecDepth 65536 in
set_option maxHeartbeats 40000000 in
theorem rm10_3 (l : Launch) (Z : State) (a0 : Array Value) (hw : ∀ d ∈ tables_1, d.before a0 Z = true) (a1 : Addr) (a2 : Addr) (I : Vm → Prop) (hst : oSt I) (x0 x1 x2 : Int32) (h0 : Heap) (n0 : Nat) (Z0 : n0 ≤ h0.size) (AV1 : oA .char Z h0 a1 [(.int x0), (.int x1), (.int x2)]) (AV2 : oA .byte Z h0 a2 [(.int 0), (.int 0), (.int 0)]) (g_a2 : n0 ≤ a2) (n12 : a1 ≠ a2) :
    oC l Z n0 I (fun _ => I) (⟨"java/lang/StringUTF16", "compress", "([CI[BII)I"⟩ : MethodName) jdk_52_method_21_code 7 (some .int) ({ frames := 0, cells := 0, slots := 0, locals := 0 } : Room) 0 0 #[(.ref a1), (.int (0 : Int32)), (.ref a2), (.int (0 : Int32)), (.int (3 : Int32))] h0 (fun v h => ∃ k, v = some (.int k) ∧ Keep h0 h [a2] ∧ ((k = (3 : Int32) ∧ oA .byte Z h a2 (([x0, x1, x2] : List Int32).map own_lat) ∧ ∀ u ∈ ([x0, x1, x2] : List Int32), ¬ 255 < u) ∨ ∃ j, k.toInt = ((j : Nat) : Int) ∧ j < 3 ∧ ∃ x, ([x0, x1, x2] : List Int32)[j]? = some x ∧ 255 < x)) := by
  refine oC.of (b := false) (L := #[.val (.ref a1), .val (.int (0 : Int32)), .val (.ref a2), .val (.int (0 : Int32)), .val (.int (3 : Int32)), .unset, .unset]) pn10 Z0 (fun q => (nomatch q)) (fun m => by first | (simp [entryFrame, mkF, argsToLocals, Value.category]; done) | rfl) ?_
  intro p e s m below meth c T H
  refine o_iconst H (0 : Int32) rfl d10_0 rfl ?_
  refine o_istore H (L' := #[.val (.ref a1), .val (.int (0 : Int32)), .val (.ref a2), .val (.int (0 : Int32)), .val (.int (3 : Int32)), .val (.int (0 : Int32)), .unset]) rfl d10_1 rfl ?_
  refine o_iload H rfl d10_3 rfl ?_
  refine o_iload H rfl d10_5 rfl ?_
  refine o_icmp_f H d10_7 (by decide) rfl ?_
  refine o_aloadN H rfl rfl d10_10 rfl ?_
  refine o_iloadN H rfl d10_11 rfl ?_
  refine o_caload H 0 (.int x0) AV1 (by decide) rfl d10_12 rfl ?_
  refine o_istore H (L' := #[.val (.ref a1), .val (.int (0 : Int32)), .val (.ref a2), .val (.int (0 : Int32)), .val (.int (3 : Int32)), .val (.int (0 : Int32)), .val (.int x0)]) rfl d10_13 rfl ?_
  refine o_iload H rfl d10_15 rfl ?_
  refine o_sipush H (255 : Int32) rfl d10_17 rfl ?_
  refine o_icmp_le H d10_20 (pt := 26) (by decide) (by decide) rfl ?_ ?_
  · intro c20_1
    refine o_aloadN H rfl rfl d10_26 rfl ?_
    refine o_iloadN H rfl d10_27 rfl ?_
    refine o_iload H rfl d10_28 rfl ?_
    refine o_i2b H d10_30 rfl ?_
    refine o_bastore H 0 AV2 (by decide) (Nat.le_of_ble_eq_true rfl) g_a2 d10_31 rfl ?_
    intro T2 h2 H2 W2 A2
    have k3 := (Keep.refl h0 [a2]).wr W2 (Or.inl (by simp))
    have f4 := AV1.other W2 n12
    have f5 : oA .byte Z h2 a2 [(own_lat x0), (.int 0), (.int 0)] := A2
    refine o_iinc H2 (1 : Int32) (1 : Int32) rfl (by decide) rfl (L' := #[.val (.ref a1), .val (.int (1 : Int32)), .val (.ref a2), .val (.int (0 : Int32)), .val (.int (3 : Int32)), .val (.int (0 : Int32)), .val (.int x0)]) rfl d10_32 rfl ?_
    refine o_iinc H2 (1 : Int32) (1 : Int32) rfl (by decide) rfl (L' := #[.val (.ref a1), .val (.int (1 : Int32)), .val (.ref a2), .val (.int (1 : Int32)), .val (.int (3 : Int32)), .val (.int (0 : Int32)), .val (.int x0)]) rfl d10_35 rfl ?_
    refine o_iinc H2 (1 : Int32) (1 : Int32) rfl (by decide) rfl (L' := #[.val (.ref a1), .val (.int (1 : Int32)), .val (.ref a2), .val (.int (1 : Int32)), .val (.int (3 : Int32)), .val (.int (1 : Int32)), .val (.int x0)]) rfl d10_38 rfl ?_
    refine o_goto H2 d10_41 (pt := 3) (by decide) (by decide) ?_
    refine o_iload H2 rfl d10_3 rfl ?_
    refine o_iload H2 rfl d10_5 rfl ?_
    refine o_icmp_f H2 d10_7 (by decide) rfl ?_
    refine o_aloadN H2 rfl rfl d10_10 rfl ?_
    refine o_iloadN H2 rfl d10_11 rfl ?_
    refine o_caload H2 1 (.int x1) f4 (by decide) rfl d10_12 rfl ?_
    refine o_istore H2 (L' := #[.val (.ref a1), .val (.int (1 : Int32)), .val (.ref a2), .val (.int (1 : Int32)), .val (.int (3 : Int32)), .val (.int (1 : Int32)), .val (.int x1)]) rfl d10_13 rfl ?_
    refine o_iload H2 rfl d10_15 rfl ?_
    refine o_sipush H2 (255 : Int32) rfl d10_17 rfl ?_
    refine o_icmp_le H2 d10_20 (pt := 26) (by decide) (by decide) rfl ?_ ?_
    · intro c20_6
      refine o_aloadN H2 rfl rfl d10_26 rfl ?_
      refine o_iloadN H2 rfl d10_27 rfl ?_
      refine o_iload H2 rfl d10_28 rfl ?_
      refine o_i2b H2 d10_30 rfl ?_
      refine o_bastore H2 1 f5 (by decide) (Nat.le_of_ble_eq_true rfl) g_a2 d10_31 rfl ?_
      intro T7 h7 H7 W7 A7
      have k8 := k3.wr W7 (Or.inl (by simp))
      have f9 := f4.other W7 n12
      have f10 : oA .byte Z h7 a2 [(own_lat x0), (own_lat x1), (.int 0)] := A7
      refine o_iinc H7 (1 : Int32) (2 : Int32) rfl (by decide) rfl (L' := #[.val (.ref a1), .val (.int (2 : Int32)), .val (.ref a2), .val (.int (1 : Int32)), .val (.int (3 : Int32)), .val (.int (1 : Int32)), .val (.int x1)]) rfl d10_32 rfl ?_
      refine o_iinc H7 (1 : Int32) (2 : Int32) rfl (by decide) rfl (L' := #[.val (.ref a1), .val (.int (2 : Int32)), .val (.ref a2), .val (.int (2 : Int32)), .val (.int (3 : Int32)), .val (.int (1 : Int32)), .val (.int x1)]) rfl d10_35 rfl ?_
      refine o_iinc H7 (1 : Int32) (2 : Int32) rfl (by decide) rfl (L' := #[.val (.ref a1), .val (.int (2 : Int32)), .val (.ref a2), .val (.int (2 : Int32)), .val (.int (3 : Int32)), .val (.int (2 : Int32)), .val (.int x1)]) rfl d10_38 rfl ?_
      refine o_goto H7 d10_41 (pt := 3) (by decide) (by decide) ?_
      refine o_iload H7 rfl d10_3 rfl ?_
      refine o_iload H7 rfl d10_5 rfl ?_
      refine o_icmp_f H7 d10_7 (by decide) rfl ?_
      refine o_aloadN H7 rfl rfl d10_10 rfl ?_
      refine o_iloadN H7 rfl d10_11 rfl ?_
      refine o_caload H7 2 (.int x2) f9 (by decide) rfl d10_12 rfl ?_
      refine o_istore H7 (L' := #[.val (.ref a1), .val (.int (2 : Int32)), .val (.ref a2), .val (.int (2 : Int32)), .val (.int (3 : Int32)), .val (.int (2 : Int32)), .val (.int x2)]) rfl d10_13 rfl ?_
      refine o_iload H7 rfl d10_15 rfl ?_
      refine o_sipush H7 (255 : Int32) rfl d10_17 rfl ?_
      refine o_icmp_le H7 d10_20 (pt := 26) (by decide) (by decide) rfl ?_ ?_
      · intro c20_11
        refine o_aloadN H7 rfl rfl d10_26 rfl ?_
        refine o_iloadN H7 rfl d10_27 rfl ?_
        refine o_iload H7 rfl d10_28 rfl ?_
        refine o_i2b H7 d10_30 rfl ?_
        refine o_bastore H7 2 f10 (by decide) (Nat.le_of_ble_eq_true rfl) g_a2 d10_31 rfl ?_
        intro T12 h12 H12 W12 A12
        have k13 := k8.wr W12 (Or.inl (by simp))
        have f14 := f9.other W12 n12
        have f15 : oA .byte Z h12 a2 [(own_lat x0), (own_lat x1), (own_lat x2)] := A12
        refine o_iinc H12 (1 : Int32) (3 : Int32) rfl (by decide) rfl (L' := #[.val (.ref a1), .val (.int (3 : Int32)), .val (.ref a2), .val (.int (2 : Int32)), .val (.int (3 : Int32)), .val (.int (2 : Int32)), .val (.int x2)]) rfl d10_32 rfl ?_
        refine o_iinc H12 (1 : Int32) (3 : Int32) rfl (by decide) rfl (L' := #[.val (.ref a1), .val (.int (3 : Int32)), .val (.ref a2), .val (.int (3 : Int32)), .val (.int (3 : Int32)), .val (.int (2 : Int32)), .val (.int x2)]) rfl d10_35 rfl ?_
        refine o_iinc H12 (1 : Int32) (3 : Int32) rfl (by decide) rfl (L' := #[.val (.ref a1), .val (.int (3 : Int32)), .val (.ref a2), .val (.int (3 : Int32)), .val (.int (3 : Int32)), .val (.int (3 : Int32)), .val (.int x2)]) rfl d10_38 rfl ?_
        refine o_goto H12 d10_41 (pt := 3) (by decide) (by decide) ?_
        refine o_iload H12 rfl d10_3 rfl ?_
        refine o_iload H12 rfl d10_5 rfl ?_
        refine o_icmp_t H12 d10_7 (by decide) (pt := 44) (by decide) (by decide) ?_
        refine o_iload H12 rfl d10_44 rfl ?_
        have ha : ∀ u ∈ ([x0, x1, x2] : List Int32), ¬ 255 < u := by
          intro u hu
          simp only [List.mem_cons, List.not_mem_nil, or_false] at hu
          rcases hu with rfl | rfl | rfl <;> assumption
        exact o_ireturn H12 rfl d10_46 hst (fun _ q => q) (by decide) (by decide) ⟨_, rfl, k13, Or.inl ⟨rfl, f15, ha⟩⟩
      · intro c20_11
        refine o_iload H7 rfl d10_23 rfl ?_
        exact o_ireturn H7 rfl d10_25 hst (fun _ q => q) (by decide) (by decide) ⟨_, rfl, k8, Or.inr ⟨2, by decide, by decide, x2, rfl, c20_11⟩⟩
    · intro c20_6
      refine o_iload H2 rfl d10_23 rfl ?_
      exact o_ireturn H2 rfl d10_25 hst (fun _ q => q) (by decide) (by decide) ⟨_, rfl, k3, Or.inr ⟨1, by decide, by decide, x1, rfl, c20_6⟩⟩
  · intro c20_1
    refine o_iload H rfl d10_23 rfl ?_
    exact o_ireturn H rfl d10_25 hst (fun _ q => q) (by decide) (by decide) ⟨_, rfl, (Keep.refl h0 [a2]), Or.inr ⟨0, by decide, by decide, x0, rfl, c20_1⟩⟩
set_option maxRecDepth 65536 in
set_option maxHeartbeats 40000000 in
theorem rm9_3 (l : Launch) (Z : State) (a0 : Array Value) (hw : ∀ d ∈ tables_1, d.before a0 Z = true) (a1 : Addr) (I : Vm → Prop) (hst : oSt I) (cs : Int32) (fm : Value) (x0 x1 x2 : Int32) (h0 : Heap) (n0 : Nat) (Z0 : n0 ≤ h0.size) (AV1 : oA .char Z h0 a1 [(.int x0), (.int x1), (.int x2)]) (hch : ∀ u ∈ ([x0, x1, x2] : List Int32), own_chr u) (WW : own_W Z h0 cs fm) :
    oC l Z n0 I (fun _ => I) (⟨"java/lang/StringUTF16", "compress", "([CII)[B"⟩ : MethodName) jdk_52_method_16_code 6 (some (.array .byte)) ({ frames := 3, cells := 2, slots := 12, locals := 44 } : Room) 2 12 #[(.ref a1), (.int (0 : Int32)), (.int (3 : Int32))] h0 (fun v h => ∃ r co bs, v = some (.ref r) ∧ Keep h0 h [] ∧ h0.size ≤ r ∧ oA .byte Z h r bs ∧ own_S ([x0, x1, x2] : List Int32) co bs) := by
  refine oC.of (b := false) (L := #[.val (.ref a1), .val (.int (0 : Int32)), .val (.int (3 : Int32)), .unset, .unset, .unset]) pn9 Z0 (fun q => (nomatch q)) (fun m => by first | (simp [entryFrame, mkF, argsToLocals, Value.category]; done) | rfl) ?_
  intro p e s m below meth c T H
  refine o_iloadN H rfl d9_0 rfl ?_
  refine o_newarr (aty := .byte) H 3 3 (w21 hw) (by decide) (by decide) (by decide) d9_1 rfl (by decide) (by decide) ?_
  intro T1 h1 b1 g1 H1 E1 A1
  have ne1_a1 : a1 ≠ b1 := by rw [g1]; exact Nat.ne_of_lt (AV1).lt
  have z1 : n0 ≤ b1 := by rw [g1]; exact H.le
  have y1 : h0.size ≤ b1 := by rw [g1]; exact (Keep.refl h0 []).1
  have k2 := (Keep.refl h0 []).ext E1
  have f3 : oA .byte Z h1 b1 [(.int 0), (.int 0), (.int 0)] := A1
  refine o_astoreN H1 (L' := #[.val (.ref a1), .val (.int (0 : Int32)), .val (.int (3 : Int32)), .val (.ref b1), .unset, .unset]) rfl rfl d9_3 rfl ?_
  refine o_aloadN H1 rfl rfl d9_4 rfl ?_
  refine o_iloadN H1 rfl d9_5 rfl ?_
  refine o_aloadN H1 rfl rfl d9_6 rfl ?_
  refine o_iconst H1 (0 : Int32) rfl d9_7 rfl ?_
  refine o_iloadN H1 rfl d9_8 rfl ?_
  refine o_static H1 [(.ref a1), (.int (0 : Int32)), (.ref b1), (.int (0 : Int32)), (.int (3 : Int32))] [] (rm10_3 l Z a0 hw a1 b1 I hst x0 x1 x2 h1 n0 H1.le (AV1.ext (o_kext k2)) f3 z1 ne1_a1) (w53 hw) (w54 hw) (w51 hw) (w55 hw) (by decide) (lenOf pd10 rfl) rfl rfl (by decide) (Nat.le_of_ble_eq_true rfl) (by decide) (by decide) d9_9 rfl (fun _ q => q) hst ?_
  intro T4 v4 h4 H4 q4
  obtain ⟨k4, rfl, K4, hk4⟩ := q4
  have k5 := k2.trans K4 (allS (Or.inr y1) all0)
  show oG p e below s n0 _ _ _ _ (T4.setTop (mkF m 12 #[.val (.ref a1), .val (.int (0 : Int32)), .val (.int (3 : Int32)), .val (.ref b1), .unset, .unset] [(.int k4)]))
  refine o_istore H4 (L' := #[.val (.ref a1), .val (.int (0 : Int32)), .val (.int (3 : Int32)), .val (.ref b1), .val (.int k4), .unset]) rfl d9_12 rfl ?_
  rcases hk4 with ⟨hkn, AD, hall⟩ | ⟨j, hj, hjn, x, hx, hgt⟩
  · subst hkn
    refine o_iload H4 rfl d9_14 rfl ?_
    refine o_iloadN H4 rfl d9_16 rfl ?_
    refine o_icmp_t H4 d9_17 (by decide) (pt := 57) (by decide) (by decide) ?_
    refine o_aloadN H4 rfl rfl d9_57 rfl ?_
    exact o_areturn H4 rfl rfl rfl rfl d9_58 hst (fun _ q => q) (by decide) (by decide) ⟨_, _, _, rfl, k5, y1, AD, Or.inl ⟨rfl, rfl, hall⟩⟩
  · have hxx := hch _ (List.mem_of_getElem? hx)
    refine o_iload H4 rfl d9_14 rfl ?_
    refine o_iloadN H4 rfl d9_16 rfl ?_
    refine o_icmp_f H4 d9_17 (XT.ii_eq_f (own_kn hj hjn (by decide))) rfl ?_
    refine o_aloadN H4 rfl rfl d9_20 rfl ?_
    refine o_iloadN H4 rfl d9_21 rfl ?_
    refine o_iloadN H4 rfl d9_22 rfl ?_
    refine o_static H4 [(.ref a1), (.int (0 : Int32)), (.int (3 : Int32))] [] (rm19_3 l Z a0 hw a1 I hst cs fm x0 x1 x2 h4 n0 H4.le (AV1.ext (o_kext k5)) (WW.ext (o_kext k5))) (w88 hw) (w89 hw) (w51 hw) (w90 hw) (by decide) (lenOf pd19 rfl) rfl rfl (by decide) (Nat.le_of_ble_eq_true rfl) (by decide) (by decide) d9_23 rfl (fun _ q => q) hst ?_
    intro T6 v6 h6 H6 q6
    obtain ⟨r6, rfl, K6, A6, y06⟩ := q6
    have k7 := k5.trans K6 all0
    have y6 : h0.size ≤ r6 := Nat.le_trans (k5).1 y06
    show oG p e below s n0 _ _ _ _ (T6.setTop (mkF m 26 #[.val (.ref a1), .val (.int (0 : Int32)), .val (.int (3 : Int32)), .val (.ref b1), .val (.int k4), .unset] [(.ref r6)]))
    refine o_astore H6 (L' := #[.val (.ref a1), .val (.int (0 : Int32)), .val (.int (3 : Int32)), .val (.ref b1), .val (.int k4), .val (.ref r6)]) rfl rfl d9_26 rfl ?_
    refine o_aload H6 rfl rfl d9_28 rfl ?_
    refine o_iload H6 rfl d9_30 rfl ?_
    refine o_static H6 [(.ref r6), (.int k4)] [] (rm23 l Z a0 hw r6 k4 I hst (own_utf ([x0, x1, x2] : List Int32)) j x cs fm h6 n0 H6.le A6 hj (by omega) (own_utf_get hx).1 (own_utf_get hx).2 hxx (WW.ext (o_kext k7))) (w104 hw) (w105 hw) (w51 hw) (w106 hw) (by decide) (lenOf pd23 rfl) rfl rfl (by decide) (Nat.le_of_ble_eq_true rfl) (by decide) (by decide) d9_32 rfl (fun _ q => q) hst ?_
    intro T8 v8 h8 H8 q8
    obtain ⟨rfl, rfl⟩ := q8
    show oG p e below s n0 _ _ _ _ (T8.setTop (mkF m 35 #[.val (.ref a1), .val (.int (0 : Int32)), .val (.int (3 : Int32)), .val (.ref b1), .val (.int k4), .val (.ref r6)] [(.int x)]))
    refine o_sipush H8 (255 : Int32) rfl d9_35 rfl ?_
    refine o_icmp_t H8 d9_38 (XT.ii_gt_t hgt) (pt := 54) (by decide) (by decide) ?_
    refine o_aload H8 rfl rfl d9_54 rfl ?_
    exact o_areturn H8 rfl rfl rfl rfl d9_56 hst (fun _ q => q) (by decide) (by decide) ⟨_, _, _, rfl, k7, y6, A6, Or.inr ⟨rfl, rfl⟩⟩
set_option maxRecDepth 65536 in
set_option maxHeartbeats 40000000 in
theorem rm21_4 (l : Launch) (Z : State) (a0 : Array Value) (hw : ∀ d ∈ tables_1, d.before a0 Z = true)  (I : Vm → Prop) (hst : oSt I)  (h0 : Heap) (n0 : Nat) (Z0 : n0 ≤ h0.size)  :
    oC l Z n0 I (fun _ => I) (⟨"java/lang/StringUTF16", "newBytesLength", "(I)I"⟩ : MethodName) jdk_52_method_3_code 1 (some .int) ({ frames := 0, cells := 0, slots := 0, locals := 0 } : Room) 0 0 #[(.int (4 : Int32))] h0 (fun v h => v = some (.int 8) ∧ h0 = h) := by
  refine oC.of (b := false) (L := #[.val (.int (4 : Int32))]) pn21 Z0 (fun q => (nomatch q)) (fun m => by first | (simp [entryFrame, mkF, argsToLocals, Value.category]; done) | rfl) ?_
  intro p e s m below meth c T H
  refine o_iloadN H rfl d21_0 rfl ?_
  refine o_if_t H d21_1 (by decide) (pt := 12) (by decide) (by decide) ?_
  refine o_iloadN H rfl d21_12 rfl ?_
  refine o_ldcI H (1073741823 : Int32) (w97 hw) d21_13 rfl ?_
  refine o_icmp_t H d21_15 (by decide) (pt := 55) (by decide) (by decide) ?_
  refine o_iloadN H rfl d21_55 rfl ?_
  refine o_iconst H (1 : Int32) rfl d21_56 rfl ?_
  refine o_ishl H d21_57 rfl ?_
  refine o_fold (8 : Int32) (by decide) ?_
  exact o_ireturn H rfl d21_58 hst (fun _ q => q) (by decide) (by decide) ⟨rfl, rfl⟩
set_option maxRecDepth 65536 in
set_option maxHeartbeats 40000000 in
theorem rm20_4 (l : Launch) (Z : State) (a0 : Array Value) (hw : ∀ d ∈ tables_1, d.before a0 Z = true)  (I : Vm → Prop) (hst : oSt I)  (h0 : Heap) (n0 : Nat) (Z0 : n0 ≤ h0.size)  :
    oC l Z n0 I (fun _ => I) (⟨"java/lang/StringUTF16", "newBytesFor", "(I)[B"⟩ : MethodName) jdk_52_method_2_code 1 (some (.array .byte)) ({ frames := 1, cells := 1, slots := 8, locals := 12 } : Room) 1 8 #[(.int (4 : Int32))] h0 (fun v h => ∃ r, v = some (.ref r) ∧ Keep h0 h [] ∧ oA .byte Z h r [(.int 0), (.int 0), (.int 0), (.int 0), (.int 0), (.int 0), (.int 0), (.int 0)] ∧ n0 ≤ r ∧ h0.size ≤ r) := by
  refine oC.of (b := false) (L := #[.val (.int (4 : Int32))]) pn20 Z0 (fun q => (nomatch q)) (fun m => by first | (simp [entryFrame, mkF, argsToLocals, Value.category]; done) | rfl) ?_
  intro p e s m below meth c T H
  refine o_iloadN H rfl d20_0 rfl ?_
  refine o_static H [(.int (4 : Int32))] [] (rm21_4 l Z a0 hw  I hst  h0 n0 H.le ) (w94 hw) (w95 hw) (w51 hw) (w96 hw) (by decide) (lenOf pd21 rfl) rfl rfl (by decide) (Nat.le_of_ble_eq_true rfl) (by decide) (by decide) d20_1 rfl (fun _ q => q) hst ?_
  intro T1 v1 h1 H1 q1
  obtain ⟨rfl, rfl⟩ := q1
  show oG p e below s n0 _ _ _ _ (T1.setTop (mkF m 4 #[.val (.int (4 : Int32))] [(.int (8 : Int32))]))
  refine o_newarr (aty := .byte) H1 8 8 (w21 hw) (by decide) (by decide) (by decide) d20_4 rfl (by decide) (by decide) ?_
  intro T2 h2 b2 g2 H2 E2 A2
  have z2 : n0 ≤ b2 := by rw [g2]; exact H1.le
  have y2 : h0.size ≤ b2 := by rw [g2]; exact (Keep.refl h0 []).1
  have k3 := (Keep.refl h0 []).ext E2
  have f4 : oA .byte Z h2 b2 [(.int 0), (.int 0), (.int 0), (.int 0), (.int 0), (.int 0), (.int 0), (.int 0)] := A2
  exact o_areturn H2 rfl rfl rfl rfl d20_6 hst (fun _ q => q) (by decide) (by decide) ⟨_, rfl, k3, f4, z2, y2⟩
set_option maxRecDepth 65536 in
set_option maxHeartbeats 40000000 in
theorem rm19_4 (l : Launch) (Z : State) (a0 : Array Value) (hw : ∀ d ∈ tables_1, d.before a0 Z = true) (a1 : Addr) (I : Vm → Prop) (hst : oSt I) (cs : Int32) (fm : Value) (x0 x1 x2 x3 : Int32) (h0 : Heap) (n0 : Nat) (Z0 : n0 ≤ h0.size) (AV1 : oA .char Z h0 a1 [(.int x0), (.int x1), (.int x2), (.int x3)]) (WW : own_W Z h0 cs fm) :
    oC l Z n0 I (fun _ => I) (⟨"java/lang/StringUTF16", "toBytes", "([CII)[B"⟩ : MethodName) jdk_52_method_14_code 5 (some (.array .byte)) ({ frames := 2, cells := 1, slots := 8, locals := 26 } : Room) 1 8 #[(.ref a1), (.int (0 : Int32)), (.int (4 : Int32))] h0 (fun v h => ∃ r, v = some (.ref r) ∧ Keep h0 h [] ∧ oA .byte Z h r (own_utf ([x0, x1, x2, x3] : List Int32)) ∧ h0.size ≤ r) := by
  refine oC.of (b := false) (L := #[.val (.ref a1), .val (.int (0 : Int32)), .val (.int (4 : Int32)), .unset, .unset]) pn19 Z0 (fun q => (nomatch q)) (fun m => by first | (simp [entryFrame, mkF, argsToLocals, Value.category]; done) | rfl) ?_
  intro p e s m below meth c T H
  refine o_iloadN H rfl d19_0 rfl ?_
  refine o_static H [(.int (4 : Int32))] [] (rm20_4 l Z a0 hw  I hst  h0 n0 H.le ) (w91 hw) (w92 hw) (w51 hw) (w93 hw) (by decide) (lenOf pd20 rfl) rfl rfl (by decide) (Nat.le_of_ble_eq_true rfl) (by decide) (by decide) d19_1 rfl (fun _ q => q) hst ?_
  intro T1 v1 h1 H1 q1
  obtain ⟨r1, rfl, K1, A1, z1, y01⟩ := q1
  have k2 := (Keep.refl h0 []).trans K1 all0
  have y1 : h0.size ≤ r1 := Nat.le_trans ((Keep.refl h0 [])).1 y01
  have na1 : a1 ≠ r1 := Nat.ne_of_lt (Nat.lt_of_lt_of_le AV1.lt y1)
  show oG p e below s n0 _ _ _ _ (T1.setTop (mkF m 4 #[.val (.ref a1), .val (.int (0 : Int32)), .val (.int (4 : Int32)), .unset, .unset] [(.ref r1)]))
  refine o_astoreN H1 (L' := #[.val (.ref a1), .val (.int (0 : Int32)), .val (.int (4 : Int32)), .val (.ref r1), .unset]) rfl rfl d19_4 rfl ?_
  refine o_iconst H1 (0 : Int32) rfl d19_5 rfl ?_
  refine o_istore H1 (L' := #[.val (.ref a1), .val (.int (0 : Int32)), .val (.int (4 : Int32)), .val (.ref r1), .val (.int (0 : Int32))]) rfl d19_6 rfl ?_
  refine o_iload H1 rfl d19_8 rfl ?_
  refine o_iloadN H1 rfl d19_10 rfl ?_
  refine o_icmp_f H1 d19_11 (by decide) rfl ?_
  refine o_aloadN H1 rfl rfl d19_14 rfl ?_
  refine o_iload H1 rfl d19_15 rfl ?_
  refine o_aloadN H1 rfl rfl d19_17 rfl ?_
  refine o_iloadN H1 rfl d19_18 rfl ?_
  refine o_caload H1 0 (.int x0) (AV1.ext (o_kext k2)) (by decide) rfl d19_19 rfl ?_
  refine o_static H1 [(.ref r1), (.int (0 : Int32)), (.int x0)] [] (rm22 l Z a0 hw r1 (0 : Int32) x0 I hst [(.int 0), (.int 0), (.int 0), (.int 0), (.int 0), (.int 0), (.int 0), (.int 0)] 0 cs fm h1 n0 H1.le A1 z1 (by decide) (by decide) (Nat.le_of_ble_eq_true rfl) (WW.ext (o_kext k2))) (w98 hw) (w99 hw) (w51 hw) (w100 hw) (by decide) (lenOf pd22 rfl) rfl rfl (by decide) (Nat.le_of_ble_eq_true rfl) (by decide) (by decide) d19_20 rfl (fun _ q => q) hst ?_
  intro T3 v3 h3 H3 q3
  obtain ⟨rfl, K3, A3⟩ := q3
  have k4 := k2.trans K3 (allS (Or.inr y1) all0)
  have AO3 : oA .byte Z h3 r1 [(own_lo x0), (own_hi x0), (.int 0), (.int 0), (.int 0), (.int 0), (.int 0), (.int 0)] := A3
  show oG p e below s n0 _ _ _ _ (T3.setTop (mkF m 23 #[.val (.ref a1), .val (.int (0 : Int32)), .val (.int (4 : Int32)), .val (.ref r1), .val (.int (0 : Int32))] []))
  refine o_iinc H3 (1 : Int32) (1 : Int32) rfl (by decide) rfl (L' := #[.val (.ref a1), .val (.int (1 : Int32)), .val (.int (4 : Int32)), .val (.ref r1), .val (.int (0 : Int32))]) rfl d19_23 rfl ?_
  refine o_iinc H3 (1 : Int32) (1 : Int32) rfl (by decide) rfl (L' := #[.val (.ref a1), .val (.int (1 : Int32)), .val (.int (4 : Int32)), .val (.ref r1), .val (.int (1 : Int32))]) rfl d19_26 rfl ?_
  refine o_goto H3 d19_29 (pt := 8) (by decide) (by decide) ?_
  refine o_iload H3 rfl d19_8 rfl ?_
  refine o_iloadN H3 rfl d19_10 rfl ?_
  refine o_icmp_f H3 d19_11 (by decide) rfl ?_
  refine o_aloadN H3 rfl rfl d19_14 rfl ?_
  refine o_iload H3 rfl d19_15 rfl ?_
  refine o_aloadN H3 rfl rfl d19_17 rfl ?_
  refine o_iloadN H3 rfl d19_18 rfl ?_
  refine o_caload H3 1 (.int x1) (AV1.ext (o_kext k4)) (by decide) rfl d19_19 rfl ?_
  refine o_static H3 [(.ref r1), (.int (1 : Int32)), (.int x1)] [] (rm22 l Z a0 hw r1 (1 : Int32) x1 I hst [(own_lo x0), (own_hi x0), (.int 0), (.int 0), (.int 0), (.int 0), (.int 0), (.int 0)] 1 cs fm h3 n0 H3.le AO3 z1 (by decide) (by decide) (Nat.le_of_ble_eq_true rfl) (WW.ext (o_kext k4))) (w98 hw) (w99 hw) (w51 hw) (w100 hw) (by decide) (lenOf pd22 rfl) rfl rfl (by decide) (Nat.le_of_ble_eq_true rfl) (by decide) (by decide) d19_20 rfl (fun _ q => q) hst ?_
  intro T5 v5 h5 H5 q5
  obtain ⟨rfl, K5, A5⟩ := q5
  have k6 := k4.trans K5 (allS (Or.inr y1) all0)
  have AO5 : oA .byte Z h5 r1 [(own_lo x0), (own_hi x0), (own_lo x1), (own_hi x1), (.int 0), (.int 0), (.int 0), (.int 0)] := A5
  show oG p e below s n0 _ _ _ _ (T5.setTop (mkF m 23 #[.val (.ref a1), .val (.int (1 : Int32)), .val (.int (4 : Int32)), .val (.ref r1), .val (.int (1 : Int32))] []))
  refine o_iinc H5 (1 : Int32) (2 : Int32) rfl (by decide) rfl (L' := #[.val (.ref a1), .val (.int (2 : Int32)), .val (.int (4 : Int32)), .val (.ref r1), .val (.int (1 : Int32))]) rfl d19_23 rfl ?_
  refine o_iinc H5 (1 : Int32) (2 : Int32) rfl (by decide) rfl (L' := #[.val (.ref a1), .val (.int (2 : Int32)), .val (.int (4 : Int32)), .val (.ref r1), .val (.int (2 : Int32))]) rfl d19_26 rfl ?_
  refine o_goto H5 d19_29 (pt := 8) (by decide) (by decide) ?_
  refine o_iload H5 rfl d19_8 rfl ?_
  refine o_iloadN H5 rfl d19_10 rfl ?_
  refine o_icmp_f H5 d19_11 (by decide) rfl ?_
  refine o_aloadN H5 rfl rfl d19_14 rfl ?_
  refine o_iload H5 rfl d19_15 rfl ?_
  refine o_aloadN H5 rfl rfl d19_17 rfl ?_
  refine o_iloadN H5 rfl d19_18 rfl ?_
  refine o_caload H5 2 (.int x2) (AV1.ext (o_kext k6)) (by decide) rfl d19_19 rfl ?_
  refine o_static H5 [(.ref r1), (.int (2 : Int32)), (.int x2)] [] (rm22 l Z a0 hw r1 (2 : Int32) x2 I hst [(own_lo x0), (own_hi x0), (own_lo x1), (own_hi x1), (.int 0), (.int 0), (.int 0), (.int 0)] 2 cs fm h5 n0 H5.le AO5 z1 (by decide) (by decide) (Nat.le_of_ble_eq_true rfl) (WW.ext (o_kext k6))) (w98 hw) (w99 hw) (w51 hw) (w100 hw) (by decide) (lenOf pd22 rfl) rfl rfl (by decide) (Nat.le_of_ble_eq_true rfl) (by decide) (by decide) d19_20 rfl (fun _ q => q) hst ?_
  intro T7 v7 h7 H7 q7
  obtain ⟨rfl, K7, A7⟩ := q7
  have k8 := k6.trans K7 (allS (Or.inr y1) all0)
  have AO7 : oA .byte Z h7 r1 [(own_lo x0), (own_hi x0), (own_lo x1), (own_hi x1), (own_lo x2), (own_hi x2), (.int 0), (.int 0)] := A7
  show oG p e below s n0 _ _ _ _ (T7.setTop (mkF m 23 #[.val (.ref a1), .val (.int (2 : Int32)), .val (.int (4 : Int32)), .val (.ref r1), .val (.int (2 : Int32))] []))
  refine o_iinc H7 (1 : Int32) (3 : Int32) rfl (by decide) rfl (L' := #[.val (.ref a1), .val (.int (3 : Int32)), .val (.int (4 : Int32)), .val (.ref r1), .val (.int (2 : Int32))]) rfl d19_23 rfl ?_
  refine o_iinc H7 (1 : Int32) (3 : Int32) rfl (by decide) rfl (L' := #[.val (.ref a1), .val (.int (3 : Int32)), .val (.int (4 : Int32)), .val (.ref r1), .val (.int (3 : Int32))]) rfl d19_26 rfl ?_
  refine o_goto H7 d19_29 (pt := 8) (by decide) (by decide) ?_
  refine o_iload H7 rfl d19_8 rfl ?_
  refine o_iloadN H7 rfl d19_10 rfl ?_
  refine o_icmp_f H7 d19_11 (by decide) rfl ?_
  refine o_aloadN H7 rfl rfl d19_14 rfl ?_
  refine o_iload H7 rfl d19_15 rfl ?_
  refine o_aloadN H7 rfl rfl d19_17 rfl ?_
  refine o_iloadN H7 rfl d19_18 rfl ?_
  refine o_caload H7 3 (.int x3) (AV1.ext (o_kext k8)) (by decide) rfl d19_19 rfl ?_
  refine o_static H7 [(.ref r1), (.int (3 : Int32)), (.int x3)] [] (rm22 l Z a0 hw r1 (3 : Int32) x3 I hst [(own_lo x0), (own_hi x0), (own_lo x1), (own_hi x1), (own_lo x2), (own_hi x2), (.int 0), (.int 0)] 3 cs fm h7 n0 H7.le AO7 z1 (by decide) (by decide) (Nat.le_of_ble_eq_true rfl) (WW.ext (o_kext k8))) (w98 hw) (w99 hw) (w51 hw) (w100 hw) (by decide) (lenOf pd22 rfl) rfl rfl (by decide) (Nat.le_of_ble_eq_true rfl) (by decide) (by decide) d19_20 rfl (fun _ q => q) hst ?_
  intro T9 v9 h9 H9 q9
  obtain ⟨rfl, K9, A9⟩ := q9
  have k10 := k8.trans K9 (allS (Or.inr y1) all0)
  have AO9 : oA .byte Z h9 r1 [(own_lo x0), (own_hi x0), (own_lo x1), (own_hi x1), (own_lo x2), (own_hi x2), (own_lo x3), (own_hi x3)] := A9
  show oG p e below s n0 _ _ _ _ (T9.setTop (mkF m 23 #[.val (.ref a1), .val (.int (3 : Int32)), .val (.int (4 : Int32)), .val (.ref r1), .val (.int (3 : Int32))] []))
  refine o_iinc H9 (1 : Int32) (4 : Int32) rfl (by decide) rfl (L' := #[.val (.ref a1), .val (.int (4 : Int32)), .val (.int (4 : Int32)), .val (.ref r1), .val (.int (3 : Int32))]) rfl d19_23 rfl ?_
  refine o_iinc H9 (1 : Int32) (4 : Int32) rfl (by decide) rfl (L' := #[.val (.ref a1), .val (.int (4 : Int32)), .val (.int (4 : Int32)), .val (.ref r1), .val (.int (4 : Int32))]) rfl d19_26 rfl ?_
  refine o_goto H9 d19_29 (pt := 8) (by decide) (by decide) ?_
  refine o_iload H9 rfl d19_8 rfl ?_
  refine o_iloadN H9 rfl d19_10 rfl ?_
  refine o_icmp_t H9 d19_11 (by decide) (pt := 32) (by decide) (by decide) ?_
  refine o_aloadN H9 rfl rfl d19_32 rfl ?_
  exact o_areturn H9 rfl rfl rfl rfl d19_33 hst (fun _ q => q) (by decide) (by decide) ⟨_, rfl, k10, AO9, y1⟩
set_option maxRecDepth 65536 in
set_option maxHeartbeats 40000000 in
theorem rm10_4 (l : Launch) (Z : State) (a0 : Array Value) (hw : ∀ d ∈ tables_1, d.before a0 Z = true) (a1 : Addr) (a2 : Addr) (I : Vm → Prop) (hst : oSt I) (x0 x1 x2 x3 : Int32) (h0 : Heap) (n0 : Nat) (Z0 : n0 ≤ h0.size) (AV1 : oA .char Z h0 a1 [(.int x0), (.int x1), (.int x2), (.int x3)]) (AV2 : oA .byte Z h0 a2 [(.int 0), (.int 0), (.int 0), (.int 0)]) (g_a2 : n0 ≤ a2) (n12 : a1 ≠ a2) :
    oC l Z n0 I (fun _ => I) (⟨"java/lang/StringUTF16", "compress", "([CI[BII)I"⟩ : MethodName) jdk_52_method_21_code 7 (some .int) ({ frames := 0, cells := 0, slots := 0, locals := 0 } : Room) 0 0 #[(.ref a1), (.int (0 : Int32)), (.ref a2), (.int (0 : Int32)), (.int (4 : Int32))] h0 (fun v h => ∃ k, v = some (.int k) ∧ Keep h0 h [a2] ∧ ((k = (4 : Int32) ∧ oA .byte Z h a2 (([x0, x1, x2, x3] : List Int32).map own_lat) ∧ ∀ u ∈ ([x0, x1, x2, x3] : List Int32), ¬ 255 < u) ∨ ∃ j, k.toInt = ((j : Nat) : Int) ∧ j < 4 ∧ ∃ x, ([x0, x1, x2, x3] : List Int32)[j]? = some x ∧ 255 < x)) := by
  refine oC.of (b := false) (L := #[.val (.ref a1), .val (.int (0 : Int32)), .val (.ref a2), .val (.int (0 : Int32)), .val (.int (4 : Int32)), .unset, .unset]) pn10 Z0 (fun q => (nomatch q)) (fun m => by first | (simp [entryFrame, mkF, argsToLocals, Value.category]; done) | rfl) ?_
  intro p e s m below meth c T H
  refine o_iconst H (0 : Int32) rfl d10_0 rfl ?_
  refine o_istore H (L' := #[.val (.ref a1), .val (.int (0 : Int32)), .val (.ref a2), .val (.int (0 : Int32)), .val (.int (4 : Int32)), .val (.int (0 : Int32)), .unset]) rfl d10_1 rfl ?_
  refine o_iload H rfl d10_3 rfl ?_
  refine o_iload H rfl d10_5 rfl ?_
  refine o_icmp_f H d10_7 (by decide) rfl ?_
  refine o_aloadN H rfl rfl d10_10 rfl ?_
  refine o_iloadN H rfl d10_11 rfl ?_
  refine o_caload H 0 (.int x0) AV1 (by decide) rfl d10_12 rfl ?_
  refine o_istore H (L' := #[.val (.ref a1), .val (.int (0 : Int32)), .val (.ref a2), .val (.int (0 : Int32)), .val (.int (4 : Int32)), .val (.int (0 : Int32)), .val (.int x0)]) rfl d10_13 rfl ?_
  refine o_iload H rfl d10_15 rfl ?_
  refine o_sipush H (255 : Int32) rfl d10_17 rfl ?_
  refine o_icmp_le H d10_20 (pt := 26) (by decide) (by decide) rfl ?_ ?_
  · intro c20_1
    refine o_aloadN H rfl rfl d10_26 rfl ?_
    refine o_iloadN H rfl d10_27 rfl ?_
    refine o_iload H rfl d10_28 rfl ?_
    refine o_i2b H d10_30 rfl ?_
    refine o_bastore H 0 AV2 (by decide) (Nat.le_of_ble_eq_true rfl) g_a2 d10_31 rfl ?_
    intro T2 h2 H2 W2 A2
    have k3 := (Keep.refl h0 [a2]).wr W2 (Or.inl (by simp))
    have f4 := AV1.other W2 n12
    have f5 : oA .byte Z h2 a2 [(own_lat x0), (.int 0), (.int 0), (.int 0)] := A2
    refine o_iinc H2 (1 : Int32) (1 : Int32) rfl (by decide) rfl (L' := #[.val (.ref a1), .val (.int (1 : Int32)), .val (.ref a2), .val (.int (0 : Int32)), .val (.int (4 : Int32)), .val (.int (0 : Int32)), .val (.int x0)]) rfl d10_32 rfl ?_
    refine o_iinc H2 (1 : Int32) (1 : Int32) rfl (by decide) rfl (L' := #[.val (.ref a1), .val (.int (1 : Int32)), .val (.ref a2), .val (.int (1 : Int32)), .val (.int (4 : Int32)), .val (.int (0 : Int32)), .val (.int x0)]) rfl d10_35 rfl ?_
    refine o_iinc H2 (1 : Int32) (1 : Int32) rfl (by decide) rfl (L' := #[.val (.ref a1), .val (.int (1 : Int32)), .val (.ref a2), .val (.int (1 : Int32)), .val (.int (4 : Int32)), .val (.int (1 : Int32)), .val (.int x0)]) rfl d10_38 rfl ?_
    refine o_goto H2 d10_41 (pt := 3) (by decide) (by decide) ?_
    refine o_iload H2 rfl d10_3 rfl ?_
    refine o_iload H2 rfl d10_5 rfl ?_
    refine o_icmp_f H2 d10_7 (by decide) rfl ?_
    refine o_aloadN H2 rfl rfl d10_10 rfl ?_
    refine o_iloadN H2 rfl d10_11 rfl ?_
    refine o_caload H2 1 (.int x1) f4 (by decide) rfl d10_12 rfl ?_
    refine o_istore H2 (L' := #[.val (.ref a1), .val (.int (1 : Int32)), .val (.ref a2), .val (.int (1 : Int32)), .val (.int (4 : Int32)), .val (.int (1 : Int32)), .val (.int x1)]) rfl d10_13 rfl ?_
    refine o_iload H2 rfl d10_15 rfl ?_
    refine o_sipush H2 (255 : Int32) rfl d10_17 rfl ?_
    refine o_icmp_le H2 d10_20 (pt := 26) (by decide) (by decide) rfl ?_ ?_
    · intro c20_6
      refine o_aloadN H2 rfl rfl d10_26 rfl ?_
      refine o_iloadN H2 rfl d10_27 rfl ?_
      refine o_iload H2 rfl d10_28 rfl ?_
      refine o_i2b H2 d10_30 rfl ?_
      refine o_bastore H2 1 f5 (by decide) (Nat.le_of_ble_eq_true rfl) g_a2 d10_31 rfl ?_
      intro T7 h7 H7 W7 A7
      have k8 := k3.wr W7 (Or.inl (by simp))
      have f9 := f4.other W7 n12
      have f10 : oA .byte Z h7 a2 [(own_lat x0), (own_lat x1), (.int 0), (.int 0)] := A7
      refine o_iinc H7 (1 : Int32) (2 : Int32) rfl (by decide) rfl (L' := #[.val (.ref a1), .val (.int (2 : Int32)), .val (.ref a2), .val (.int (1 : Int32)), .val (.int (4 : Int32)), .val (.int (1 : Int32)), .val (.int x1)]) rfl d10_32 rfl ?_
      refine o_iinc H7 (1 : Int32) (2 : Int32) rfl (by decide) rfl (L' := #[.val (.ref a1), .val (.int (2 : Int32)), .val (.ref a2), .val (.int (2 : Int32)), .val (.int (4 : Int32)), .val (.int (1 : Int32)), .val (.int x1)]) rfl d10_35 rfl ?_
      refine o_iinc H7 (1 : Int32) (2 : Int32) rfl (by decide) rfl (L' := #[.val (.ref a1), .val (.int (2 : Int32)), .val (.ref a2), .val (.int (2 : Int32)), .val (.int (4 : Int32)), .val (.int (2 : Int32)), .val (.int x1)]) rfl d10_38 rfl ?_
      refine o_goto H7 d10_41 (pt := 3) (by decide) (by decide) ?_
      refine o_iload H7 rfl d10_3 rfl ?_
      refine o_iload H7 rfl d10_5 rfl ?_
      refine o_icmp_f H7 d10_7 (by decide) rfl ?_
      refine o_aloadN H7 rfl rfl d10_10 rfl ?_
      refine o_iloadN H7 rfl d10_11 rfl ?_
      refine o_caload H7 2 (.int x2) f9 (by decide) rfl d10_12 rfl ?_
      refine o_istore H7 (L' := #[.val (.ref a1), .val (.int (2 : Int32)), .val (.ref a2), .val (.int (2 : Int32)), .val (.int (4 : Int32)), .val (.int (2 : Int32)), .val (.int x2)]) rfl d10_13 rfl ?_
      refine o_iload H7 rfl d10_15 rfl ?_
      refine o_sipush H7 (255 : Int32) rfl d10_17 rfl ?_
      refine o_icmp_le H7 d10_20 (pt := 26) (by decide) (by decide) rfl ?_ ?_
      · intro c20_11
        refine o_aloadN H7 rfl rfl d10_26 rfl ?_
        refine o_iloadN H7 rfl d10_27 rfl ?_
        refine o_iload H7 rfl d10_28 rfl ?_
        refine o_i2b H7 d10_30 rfl ?_
        refine o_bastore H7 2 f10 (by decide) (Nat.le_of_ble_eq_true rfl) g_a2 d10_31 rfl ?_
        intro T12 h12 H12 W12 A12
        have k13 := k8.wr W12 (Or.inl (by simp))
        have f14 := f9.other W12 n12
        have f15 : oA .byte Z h12 a2 [(own_lat x0), (own_lat x1), (own_lat x2), (.int 0)] := A12
        refine o_iinc H12 (1 : Int32) (3 : Int32) rfl (by decide) rfl (L' := #[.val (.ref a1), .val (.int (3 : Int32)), .val (.ref a2), .val (.int (2 : Int32)), .val (.int (4 : Int32)), .val (.int (2 : Int32)), .val (.int x2)]) rfl d10_32 rfl ?_
        refine o_iinc H12 (1 : Int32) (3 : Int32) rfl (by decide) rfl (L' := #[.val (.ref a1), .val (.int (3 : Int32)), .val (.ref a2), .val (.int (3 : Int32)), .val (.int (4 : Int32)), .val (.int (2 : Int32)), .val (.int x2)]) rfl d10_35 rfl ?_
        refine o_iinc H12 (1 : Int32) (3 : Int32) rfl (by decide) rfl (L' := #[.val (.ref a1), .val (.int (3 : Int32)), .val (.ref a2), .val (.int (3 : Int32)), .val (.int (4 : Int32)), .val (.int (3 : Int32)), .val (.int x2)]) rfl d10_38 rfl ?_
        refine o_goto H12 d10_41 (pt := 3) (by decide) (by decide) ?_
        refine o_iload H12 rfl d10_3 rfl ?_
        refine o_iload H12 rfl d10_5 rfl ?_
        refine o_icmp_f H12 d10_7 (by decide) rfl ?_
        refine o_aloadN H12 rfl rfl d10_10 rfl ?_
        refine o_iloadN H12 rfl d10_11 rfl ?_
        refine o_caload H12 3 (.int x3) f14 (by decide) rfl d10_12 rfl ?_
        refine o_istore H12 (L' := #[.val (.ref a1), .val (.int (3 : Int32)), .val (.ref a2), .val (.int (3 : Int32)), .val (.int (4 : Int32)), .val (.int (3 : Int32)), .val (.int x3)]) rfl d10_13 rfl ?_
        refine o_iload H12 rfl d10_15 rfl ?_
        refine o_sipush H12 (255 : Int32) rfl d10_17 rfl ?_
        refine o_icmp_le H12 d10_20 (pt := 26) (by decide) (by decide) rfl ?_ ?_
        · intro c20_16
          refine o_aloadN H12 rfl rfl d10_26 rfl ?_
          refine o_iloadN H12 rfl d10_27 rfl ?_
          refine o_iload H12 rfl d10_28 rfl ?_
          refine o_i2b H12 d10_30 rfl ?_
          refine o_bastore H12 3 f15 (by decide) (Nat.le_of_ble_eq_true rfl) g_a2 d10_31 rfl ?_
          intro T17 h17 H17 W17 A17
          have k18 := k13.wr W17 (Or.inl (by simp))
          have f19 := f14.other W17 n12
          have f20 : oA .byte Z h17 a2 [(own_lat x0), (own_lat x1), (own_lat x2), (own_lat x3)] := A17
          refine o_iinc H17 (1 : Int32) (4 : Int32) rfl (by decide) rfl (L' := #[.val (.ref a1), .val (.int (4 : Int32)), .val (.ref a2), .val (.int (3 : Int32)), .val (.int (4 : Int32)), .val (.int (3 : Int32)), .val (.int x3)]) rfl d10_32 rfl ?_
          refine o_iinc H17 (1 : Int32) (4 : Int32) rfl (by decide) rfl (L' := #[.val (.ref a1), .val (.int (4 : Int32)), .val (.ref a2), .val (.int (4 : Int32)), .val (.int (4 : Int32)), .val (.int (3 : Int32)), .val (.int x3)]) rfl d10_35 rfl ?_
          refine o_iinc H17 (1 : Int32) (4 : Int32) rfl (by decide) rfl (L' := #[.val (.ref a1), .val (.int (4 : Int32)), .val (.ref a2), .val (.int (4 : Int32)), .val (.int (4 : Int32)), .val (.int (4 : Int32)), .val (.int x3)]) rfl d10_38 rfl ?_
          refine o_goto H17 d10_41 (pt := 3) (by decide) (by decide) ?_
          refine o_iload H17 rfl d10_3 rfl ?_
          refine o_iload H17 rfl d10_5 rfl ?_
          refine o_icmp_t H17 d10_7 (by decide) (pt := 44) (by decide) (by decide) ?_
          refine o_iload H17 rfl d10_44 rfl ?_
          have ha : ∀ u ∈ ([x0, x1, x2, x3] : List Int32), ¬ 255 < u := by
            intro u hu
            simp only [List.mem_cons, List.not_mem_nil, or_false] at hu
            rcases hu with rfl | rfl | rfl | rfl <;> assumption
          exact o_ireturn H17 rfl d10_46 hst (fun _ q => q) (by decide) (by decide) ⟨_, rfl, k18, Or.inl ⟨rfl, f20, ha⟩⟩
        · intro c20_16
          refine o_iload H12 rfl d10_23 rfl ?_
          exact o_ireturn H12 rfl d10_25 hst (fun _ q => q) (by decide) (by decide) ⟨_, rfl, k13, Or.inr ⟨3, by decide, by decide, x3, rfl, c20_16⟩⟩
      · intro c20_11
        refine o_iload H7 rfl d10_23 rfl ?_
        exact o_ireturn H7 rfl d10_25 hst (fun _ q => q) (by decide) (by decide) ⟨_, rfl, k8, Or.inr ⟨2, by decide, by decide, x2, rfl, c20_11⟩⟩
    · intro c20_6
      refine o_iload H2 rfl d10_23 rfl ?_
      exact o_ireturn H2 rfl d10_25 hst (fun _ q => q) (by decide) (by decide) ⟨_, rfl, k3, Or.inr ⟨1, by decide, by decide, x1, rfl, c20_6⟩⟩
  · intro c20_1
    refine o_iload H rfl d10_23 rfl ?_
    exact o_ireturn H rfl d10_25 hst (fun _ q => q) (by decide) (by decide) ⟨_, rfl, (Keep.refl h0 [a2]), Or.inr ⟨0, by decide, by decide, x0, rfl, c20_1⟩⟩
set_option maxRecDepth 65536 in
set_option maxHeartbeats 40000000 in
theorem rm9_4 (l : Launch) (Z : State) (a0 : Array Value) (hw : ∀ d ∈ tables_1, d.before a0 Z = true) (a1 : Addr) (I : Vm → Prop) (hst : oSt I) (cs : Int32) (fm : Value) (x0 x1 x2 x3 : Int32) (h0 : Heap) (n0 : Nat) (Z0 : n0 ≤ h0.size) (AV1 : oA .char Z h0 a1 [(.int x0), (.int x1), (.int x2), (.int x3)]) (hch : ∀ u ∈ ([x0, x1, x2, x3] : List Int32), own_chr u) (WW : own_W Z h0 cs fm) :
    oC l Z n0 I (fun _ => I) (⟨"java/lang/StringUTF16", "compress", "([CII)[B"⟩ : MethodName) jdk_52_method_16_code 6 (some (.array .byte)) ({ frames := 3, cells := 2, slots := 12, locals := 44 } : Room) 2 12 #[(.ref a1), (.int (0 : Int32)), (.int (4 : Int32))] h0 (fun v h => ∃ r co bs, v = some (.ref r) ∧ Keep h0 h [] ∧ h0.size ≤ r ∧ oA .byte Z h r bs ∧ own_S ([x0, x1, x2, x3] : List Int32) co bs) := by
  refine oC.of (b := false) (L := #[.val (.ref a1), .val (.int (0 : Int32)), .val (.int (4 : Int32)), .unset, .unset, .unset]) pn9 Z0 (fun q => (nomatch q)) (fun m => by first | (simp [entryFrame, mkF, argsToLocals, Value.category]; done) | rfl) ?_
  intro p e s m below meth c T H
  refine o_iloadN H rfl d9_0 rfl ?_
  refine o_newarr (aty := .byte) H 4 4 (w21 hw) (by decide) (by decide) (by decide) d9_1 rfl (by decide) (by decide) ?_
  intro T1 h1 b1 g1 H1 E1 A1
  have ne1_a1 : a1 ≠ b1 := by rw [g1]; exact Nat.ne_of_lt (AV1).lt
  have z1 : n0 ≤ b1 := by rw [g1]; exact H.le
  have y1 : h0.size ≤ b1 := by rw [g1]; exact (Keep.refl h0 []).1
  have k2 := (Keep.refl h0 []).ext E1
  have f3 : oA .byte Z h1 b1 [(.int 0), (.int 0), (.int 0), (.int 0)] := A1
  refine o_astoreN H1 (L' := #[.val (.ref a1), .val (.int (0 : Int32)), .val (.int (4 : Int32)), .val (.ref b1), .unset, .unset]) rfl rfl d9_3 rfl ?_
  refine o_aloadN H1 rfl rfl d9_4 rfl ?_
  refine o_iloadN H1 rfl d9_5 rfl ?_
  refine o_aloadN H1 rfl rfl d9_6 rfl ?_
  refine o_iconst H1 (0 : Int32) rfl d9_7 rfl ?_
  refine o_iloadN H1 rfl d9_8 rfl ?_
  refine o_static H1 [(.ref a1), (.int (0 : Int32)), (.ref b1), (.int (0 : Int32)), (.int (4 : Int32))] [] (rm10_4 l Z a0 hw a1 b1 I hst x0 x1 x2 x3 h1 n0 H1.le (AV1.ext (o_kext k2)) f3 z1 ne1_a1) (w53 hw) (w54 hw) (w51 hw) (w55 hw) (by decide) (lenOf pd10 rfl) rfl rfl (by decide) (Nat.le_of_ble_eq_true rfl) (by decide) (by decide) d9_9 rfl (fun _ q => q) hst ?_
  intro T4 v4 h4 H4 q4
  obtain ⟨k4, rfl, K4, hk4⟩ := q4
  have k5 := k2.trans K4 (allS (Or.inr y1) all0)
  show oG p e below s n0 _ _ _ _ (T4.setTop (mkF m 12 #[.val (.ref a1), .val (.int (0 : Int32)), .val (.int (4 : Int32)), .val (.ref b1), .unset, .unset] [(.int k4)]))
  refine o_istore H4 (L' := #[.val (.ref a1), .val (.int (0 : Int32)), .val (.int (4 : Int32)), .val (.ref b1), .val (.int k4), .unset]) rfl d9_12 rfl ?_
  rcases hk4 with ⟨hkn, AD, hall⟩ | ⟨j, hj, hjn, x, hx, hgt⟩
  · subst hkn
    refine o_iload H4 rfl d9_14 rfl ?_
    refine o_iloadN H4 rfl d9_16 rfl ?_
    refine o_icmp_t H4 d9_17 (by decide) (pt := 57) (by decide) (by decide) ?_
    refine o_aloadN H4 rfl rfl d9_57 rfl ?_
    exact o_areturn H4 rfl rfl rfl rfl d9_58 hst (fun _ q => q) (by decide) (by decide) ⟨_, _, _, rfl, k5, y1, AD, Or.inl ⟨rfl, rfl, hall⟩⟩
  · have hxx := hch _ (List.mem_of_getElem? hx)
    refine o_iload H4 rfl d9_14 rfl ?_
    refine o_iloadN H4 rfl d9_16 rfl ?_
    refine o_icmp_f H4 d9_17 (XT.ii_eq_f (own_kn hj hjn (by decide))) rfl ?_
    refine o_aloadN H4 rfl rfl d9_20 rfl ?_
    refine o_iloadN H4 rfl d9_21 rfl ?_
    refine o_iloadN H4 rfl d9_22 rfl ?_
    refine o_static H4 [(.ref a1), (.int (0 : Int32)), (.int (4 : Int32))] [] (rm19_4 l Z a0 hw a1 I hst cs fm x0 x1 x2 x3 h4 n0 H4.le (AV1.ext (o_kext k5)) (WW.ext (o_kext k5))) (w88 hw) (w89 hw) (w51 hw) (w90 hw) (by decide) (lenOf pd19 rfl) rfl rfl (by decide) (Nat.le_of_ble_eq_true rfl) (by decide) (by decide) d9_23 rfl (fun _ q => q) hst ?_
    intro T6 v6 h6 H6 q6
    obtain ⟨r6, rfl, K6, A6, y06⟩ := q6
    have k7 := k5.trans K6 all0
    have y6 : h0.size ≤ r6 := Nat.le_trans (k5).1 y06
    show oG p e below s n0 _ _ _ _ (T6.setTop (mkF m 26 #[.val (.ref a1), .val (.int (0 : Int32)), .val (.int (4 : Int32)), .val (.ref b1), .val (.int k4), .unset] [(.ref r6)]))
    refine o_astore H6 (L' := #[.val (.ref a1), .val (.int (0 : Int32)), .val (.int (4 : Int32)), .val (.ref b1), .val (.int k4), .val (.ref r6)]) rfl rfl d9_26 rfl ?_
    refine o_aload H6 rfl rfl d9_28 rfl ?_
    refine o_iload H6 rfl d9_30 rfl ?_
    refine o_static H6 [(.ref r6), (.int k4)] [] (rm23 l Z a0 hw r6 k4 I hst (own_utf ([x0, x1, x2, x3] : List Int32)) j x cs fm h6 n0 H6.le A6 hj (by omega) (own_utf_get hx).1 (own_utf_get hx).2 hxx (WW.ext (o_kext k7))) (w104 hw) (w105 hw) (w51 hw) (w106 hw) (by decide) (lenOf pd23 rfl) rfl rfl (by decide) (Nat.le_of_ble_eq_true rfl) (by decide) (by decide) d9_32 rfl (fun _ q => q) hst ?_
    intro T8 v8 h8 H8 q8
    obtain ⟨rfl, rfl⟩ := q8
    show oG p e below s n0 _ _ _ _ (T8.setTop (mkF m 35 #[.val (.ref a1), .val (.int (0 : Int32)), .val (.int (4 : Int32)), .val (.ref b1), .val (.int k4), .val (.ref r6)] [(.int x)]))
    refine o_sipush H8 (255 : Int32) rfl d9_35 rfl ?_
    refine o_icmp_t H8 d9_38 (XT.ii_gt_t hgt) (pt := 54) (by decide) (by decide) ?_
    refine o_aload H8 rfl rfl d9_54 rfl ?_
    exact o_areturn H8 rfl rfl rfl rfl d9_56 hst (fun _ q => q) (by decide) (by decide) ⟨_, _, _, rfl, k7, y6, A6, Or.inr ⟨rfl, rfl⟩⟩
theorem d11_0 : decode jdk_52_method_15_code 0 = .ok (.iload_n 1, 1) := by decide +kernel
theorem d11_1 : decode jdk_52_method_15_code 1 = .ok (.aload_n 0, 1) := by decide +kernel
theorem d11_2 : decode jdk_52_method_15_code 2 = .ok (.arraylength, 1) := by decide +kernel
theorem d11_3 : decode jdk_52_method_15_code 3 = .ok (.isub, 1) := by decide +kernel
theorem d11_4 : decode jdk_52_method_15_code 4 = .ok (.bipush 31, 2) := by decide +kernel
theorem d11_6 : decode jdk_52_method_15_code 6 = .ok (.iushr, 1) := by decide +kernel
theorem d11_7 : decode jdk_52_method_15_code 7 = .ok (.i2b, 1) := by decide +kernel
theorem d11_8 : decode jdk_52_method_15_code 8 = .ok (.ireturn, 1) := by decide +kernel
theorem pn11 : plainFor (⟨"java/lang/StringUTF16", "coderFromArrayLen", "([BI)B"⟩ : MethodName) = true := plainFor_of_name (by first | (simp [plainName, overriddenIn]; done) | decide +kernel)
theorem pd11 : parseMethodDescriptor "([BI)B" = some ⟨[(.array .byte), .int], some .byte⟩ := by decide +kernel
set_option maxRecDepth 65536 in
set_option maxHeartbeats 40000000 in
theorem rm11 (l : Launch) (Z : State) (a0 : Array Value) (hw : ∀ d ∈ tables_1, d.before a0 Z = true) (a1 : Addr) (p1 : Int32) (I : Vm → Prop) (hst : oSt I) (bs : List Value) (h0 : Heap) (n0 : Nat) (Z0 : n0 ≤ h0.size) (AV : oA .byte Z h0 a1 bs) :
    oC l Z n0 I (fun _ => I) (⟨"java/lang/StringUTF16", "coderFromArrayLen", "([BI)B"⟩ : MethodName) jdk_52_method_15_code 2 (some .byte) ({ frames := 0, cells := 0, slots := 0, locals := 0 } : Room) 0 0 #[(.ref a1), (.int p1)] h0 (fun v h => v = some (.int (nar .byte ((XT.ushr (p1 - bs.length.toInt32) 31).toInt8.toInt32))) ∧ h0 = h) := by
  refine oC.of (b := false) (L := #[.val (.ref a1), .val (.int p1)]) pn11 Z0 (fun q => (nomatch q)) (fun m => by first | (simp [entryFrame, mkF, argsToLocals, Value.category]; done) | rfl) ?_
  intro p e s m below meth c T H
  refine o_iloadN H rfl d11_0 rfl ?_
  refine o_aloadN H rfl rfl d11_1 rfl ?_
  refine o_arraylength H (bs.length.toInt32) AV rfl d11_2 rfl ?_
  refine o_isub H d11_3 rfl ?_
  refine o_bipush H (31 : Int32) rfl d11_4 rfl ?_
  refine o_iushr H d11_6 rfl ?_
  refine o_i2b H d11_7 rfl ?_
  exact o_nreturn H .byte rfl (by simp) d11_8 hst (fun _ q => q) (by decide) (by decide) ⟨rfl, rfl⟩
theorem d3_0 : decode jdk_42_method_149_code 0 = .ok (.aload_n 0, 1) := by decide +kernel
theorem d3_1 : decode jdk_42_method_149_code 1 = .ok (.invokespecial 1, 3) := by decide +kernel
theorem d3_4 : decode jdk_42_method_149_code 4 = .ok (.iload_n 3, 1) := by decide +kernel
theorem d3_5 : decode jdk_42_method_149_code 5 = .ok (.ifCond .ne 22, 3) := by decide +kernel
theorem d3_8 : decode jdk_42_method_149_code 8 = .ok (.aload_n 0, 1) := by decide +kernel
theorem d3_9 : decode jdk_42_method_149_code 9 = .ok (.ldc 7, 2) := by decide +kernel
theorem d3_11 : decode jdk_42_method_149_code 11 = .ok (.getfield 9, 3) := by decide +kernel
theorem d3_14 : decode jdk_42_method_149_code 14 = .ok (.putfield 9, 3) := by decide +kernel
theorem d3_17 : decode jdk_42_method_149_code 17 = .ok (.aload_n 0, 1) := by decide +kernel
theorem d3_18 : decode jdk_42_method_149_code 18 = .ok (.ldc 7, 2) := by decide +kernel
theorem d3_20 : decode jdk_42_method_149_code 20 = .ok (.getfield 15, 3) := by decide +kernel
theorem d3_23 : decode jdk_42_method_149_code 23 = .ok (.putfield 15, 3) := by decide +kernel
theorem d3_26 : decode jdk_42_method_149_code 26 = .ok (.return_, 1) := by decide +kernel
theorem d3_27 : decode jdk_42_method_149_code 27 = .ok (.getstatic 38, 3) := by decide +kernel
theorem d3_30 : decode jdk_42_method_149_code 30 = .ok (.ifCond .eq 28, 3) := by decide +kernel
theorem d3_33 : decode jdk_42_method_149_code 33 = .ok (.aload_n 1, 1) := by decide +kernel
theorem d3_34 : decode jdk_42_method_149_code 34 = .ok (.iload_n 2, 1) := by decide +kernel
theorem d3_35 : decode jdk_42_method_149_code 35 = .ok (.iload_n 3, 1) := by decide +kernel
theorem d3_36 : decode jdk_42_method_149_code 36 = .ok (.invokestatic 177, 3) := by decide +kernel
theorem d3_39 : decode jdk_42_method_149_code 39 = .ok (.astore 5, 2) := by decide +kernel
theorem d3_41 : decode jdk_42_method_149_code 41 = .ok (.aload_n 0, 1) := by decide +kernel
theorem d3_42 : decode jdk_42_method_149_code 42 = .ok (.aload 5, 2) := by decide +kernel
theorem d3_44 : decode jdk_42_method_149_code 44 = .ok (.iload_n 3, 1) := by decide +kernel
theorem d3_45 : decode jdk_42_method_149_code 45 = .ok (.invokestatic 47, 3) := by decide +kernel
theorem d3_48 : decode jdk_42_method_149_code 48 = .ok (.putfield 15, 3) := by decide +kernel
theorem d3_51 : decode jdk_42_method_149_code 51 = .ok (.aload_n 0, 1) := by decide +kernel
theorem d3_52 : decode jdk_42_method_149_code 52 = .ok (.aload 5, 2) := by decide +kernel
theorem d3_54 : decode jdk_42_method_149_code 54 = .ok (.putfield 9, 3) := by decide +kernel
theorem d3_57 : decode jdk_42_method_149_code 57 = .ok (.return_, 1) := by decide +kernel
theorem pn3 : plainFor (⟨"java/lang/String", "<init>", "([CIILjava/lang/Void;)V"⟩ : MethodName) = true := plainFor_of_name (by first | (simp [plainName, overriddenIn]; done) | decide +kernel)
theorem pd3 : parseMethodDescriptor "([CIILjava/lang/Void;)V" = some ⟨[(.array .char), .int, .int, (.object "java/lang/Void")], none⟩ := by decide +kernel
set_option maxRecDepth 65536 in
set_option maxHeartbeats 40000000 in
theorem rm3_1 (l : Launch) (Z : State) (a0 : Array Value) (hw : ∀ d ∈ tables_1, d.before a0 Z = true) (a1 : Addr) (p1 : Addr) (I : Vm → Prop) (hst : oSt I) (cs : Int32) (fm : Value) (x0 : Int32) (h0 : Heap) (n0 : Nat) (Z0 : n0 ≤ h0.size) (E_a1 : Exa Z h0 a1 "java/lang/String") (g_a1 : n0 ≤ a1) (F_value_a1 : Fld Z h0 a1 "java/lang/String" "value" "[B" .null) (F_coder_a1 : Fld Z h0 a1 "java/lang/String" "coder" "B" (.int (0 : Int32))) (AV1 : oA .char Z h0 p1 [(.int x0)]) (hch : ∀ u ∈ ([x0] : List Int32), own_chr u) (WW : own_W Z h0 cs fm) :
    oC l Z n0 I (fun _ => I) (⟨"java/lang/String", "<init>", "([CIILjava/lang/Void;)V"⟩ : MethodName) jdk_42_method_149_code 6 none ({ frames := 4, cells := 2, slots := 12, locals := 64 } : Room) 2 12 #[(.ref a1), (.ref p1), (.int (0 : Int32)), (.int (1 : Int32)), .null] h0 (fun v h => v = none ∧ Keep h0 h [a1] ∧ own_T Z h a1 ([x0] : List Int32)) := by
  refine oC.of (b := false) (L := #[.val (.ref a1), .val (.ref p1), .val (.int (0 : Int32)), .val (.int (1 : Int32)), .val .null, .unset]) pn3 Z0 (fun q => (nomatch q)) (fun m => by first | (simp [entryFrame, mkF, argsToLocals, Value.category]; done) | rfl) ?_
  intro p e s m below meth c T H
  refine o_aloadN H rfl rfl d3_0 rfl ?_
  refine o_initO H (w17 hw) (w18 hw) (w19 hw) d3_1 rfl rfl (by decide) (Nat.le_of_ble_eq_true rfl) ?_
  intro T1 H2
  refine o_iloadN H2 rfl d3_4 rfl ?_
  refine o_if_t H2 d3_5 (by decide) (pt := 27) (by decide) (by decide) ?_
  refine o_getS H2 (host := "") (Or.inl (w42 hw)) WW.1 d3_27 rfl ?_
  intro T3 H4
  refine o_if_f H4 d3_30 (XT.i0_eq_f WW.2.1) rfl ?_
  refine o_aloadN H4 rfl rfl d3_33 rfl ?_
  refine o_iloadN H4 rfl d3_34 rfl ?_
  refine o_iloadN H4 rfl d3_35 rfl ?_
  refine o_static H4 [(.ref p1), (.int (0 : Int32)), (.int (1 : Int32))] [] (rm9_1 l Z a0 hw p1 I hst cs fm x0 h0 n0 H4.le AV1 hch WW) (w49 hw) (w50 hw) (w51 hw) (w52 hw) (by decide) (lenOf pd9 rfl) rfl rfl (by decide) (Nat.le_of_ble_eq_true rfl) (by decide) (by decide) d3_36 rfl (fun _ q => q) hst ?_
  intro T5 v5 h5 H5 q5
  obtain ⟨r5, co5, bs5, rfl, K5, y5, A5, hS5⟩ := q5
  have nr5 : r5 ≠ a1 := Nat.ne_of_gt (Nat.lt_of_lt_of_le E_a1.lt y5)
  have k6 := (Keep.refl h0 [a1]).trans K5 all0
  have f7 := E_a1.keep K5
  have f8 := F_value_a1.keep K5 nin0
  have f9 := F_coder_a1.keep K5 nin0
  show oG p e below s n0 _ _ _ _ (T5.setTop (mkF m 39 #[.val (.ref a1), .val (.ref p1), .val (.int (0 : Int32)), .val (.int (1 : Int32)), .val .null, .unset] [(.ref r5)]))
  refine o_astore H5 (L' := #[.val (.ref a1), .val (.ref p1), .val (.int (0 : Int32)), .val (.int (1 : Int32)), .val .null, .val (.ref r5)]) rfl rfl d3_39 rfl ?_
  refine o_aloadN H5 rfl rfl d3_41 rfl ?_
  refine o_aload H5 rfl rfl d3_42 rfl ?_
  refine o_iloadN H5 rfl d3_44 rfl ?_
  refine o_static H5 [(.ref r5), (.int (1 : Int32))] [(.ref a1)] ((rm11 l Z a0 hw r5 (1 : Int32) I hst bs5 h5 n0 H5.le A5).mono (fun v h q => (⟨q.1.trans (by rw [own_cfa (z := (1 : Int32)) hS5 (Nat.le_of_ble_eq_true rfl) (Nat.le_of_ble_eq_true rfl) rfl]), q.2⟩ : v = some (.int co5) ∧ h5 = h))) (w56 hw) (w57 hw) (w51 hw) (w58 hw) (by decide) (lenOf pd11 rfl) rfl rfl (by decide) (Nat.le_of_ble_eq_true rfl) (by decide) (by decide) d3_45 rfl (fun _ q => q) hst ?_
  intro T10 v10 h10 H10 q10
  obtain ⟨rfl, rfl⟩ := q10
  show oG p e below s n0 _ _ _ _ (T10.setTop (mkF m 48 #[.val (.ref a1), .val (.ref p1), .val (.int (0 : Int32)), .val (.int (1 : Int32)), .val .null, .val (.ref r5)] [(.int co5), (.ref a1)]))
  refine o_putFN H10 (w27 hw) f9 f7 (Or.inr ⟨(w23 hw), rfl, rfl⟩) (w8 hw) (ty := .byte) (v' := (.int (nar .byte co5))) (by decide) rfl (fits_nar_byte _) g_a1 d3_48 rfl ?_
  intro T11 h11 H11 W11
  have k12 := k6.wr W11 (Or.inl (by simp))
  have f13 := f7.wr W11
  have f14 := f8.other W11 (Or.inr (slot_ne (Or.inr (w22 hw)) (Or.inr (w23 hw)) (by decide) (t := (.array .byte)) (t' := .byte) (by decide) (by decide)))
  have f15 := f9.same W11
  have f16 := A5.other W11 nr5
  refine o_aloadN H11 rfl rfl d3_51 rfl ?_
  refine o_aload H11 rfl rfl d3_52 rfl ?_
  refine o_putF H11 (host := "") (Or.inl (w26 hw)) f14 f13 (Or.inr ⟨(w22 hw), rfl, rfl⟩) (w8 hw) (ty := (.array .byte)) (by decide) rfl rfl g_a1 d3_54 rfl ?_
  intro T17 h17 H17 W17
  have k18 := k12.wr W17 (Or.inl (by simp))
  have f19 := f13.wr W17
  have f20 := f14.same W17
  have f21 := f15.other W17 (Or.inr (slot_ne (Or.inr (w23 hw)) (Or.inr (w22 hw)) (by decide) (t := .byte) (t' := (.array .byte)) (by decide) (by decide)))
  have f22 := f16.other W17 nr5
  have FX := f21
  rw [hS5.nar] at FX
  exact o_return H17 rfl d3_57 hst (fun _ q => q) (by decide) (by decide) ⟨rfl, k18, _, _, _, f19, f20, FX, f22, hS5⟩
theorem d2_0 : decode jdk_42_method_3_code 0 = .ok (.aload_n 0, 1) := by decide +kernel
theorem d2_1 : decode jdk_42_method_3_code 1 = .ok (.aload_n 1, 1) := by decide +kernel
theorem d2_2 : decode jdk_42_method_3_code 2 = .ok (.iconst 0, 1) := by decide +kernel
theorem d2_3 : decode jdk_42_method_3_code 3 = .ok (.aload_n 1, 1) := by decide +kernel
theorem d2_4 : decode jdk_42_method_3_code 4 = .ok (.arraylength, 1) := by decide +kernel
theorem d2_5 : decode jdk_42_method_3_code 5 = .ok (.aconst_null, 1) := by decide +kernel
theorem d2_6 : decode jdk_42_method_3_code 6 = .ok (.invokespecial 27, 3) := by decide +kernel
theorem d2_9 : decode jdk_42_method_3_code 9 = .ok (.return_, 1) := by decide +kernel
theorem pn2 : plainFor (⟨"java/lang/String", "<init>", "([C)V"⟩ : MethodName) = true := plainFor_of_name (by first | (simp [plainName, overriddenIn]; done) | decide +kernel)
theorem pd2 : parseMethodDescriptor "([C)V" = some ⟨[(.array .char)], none⟩ := by decide +kernel
set_option maxRecDepth 65536 in
set_option maxHeartbeats 40000000 in
theorem rm2_1 (l : Launch) (Z : State) (a0 : Array Value) (hw : ∀ d ∈ tables_1, d.before a0 Z = true) (a1 : Addr) (p1 : Addr) (I : Vm → Prop) (hst : oSt I) (cs : Int32) (fm : Value) (x0 : Int32) (h0 : Heap) (n0 : Nat) (Z0 : n0 ≤ h0.size) (E_a1 : Exa Z h0 a1 "java/lang/String") (g_a1 : n0 ≤ a1) (F_value_a1 : Fld Z h0 a1 "java/lang/String" "value" "[B" .null) (F_coder_a1 : Fld Z h0 a1 "java/lang/String" "coder" "B" (.int (0 : Int32))) (AV1 : oA .char Z h0 p1 [(.int x0)]) (hch : ∀ u ∈ ([x0] : List Int32), own_chr u) (WW : own_W Z h0 cs fm) :
    oC l Z n0 I (fun _ => I) (⟨"java/lang/String", "<init>", "([C)V"⟩ : MethodName) jdk_42_method_3_code 2 none ({ frames := 5, cells := 2, slots := 12, locals := 84 } : Room) 2 12 #[(.ref a1), (.ref p1)] h0 (fun v h => v = none ∧ Keep h0 h [a1] ∧ own_T Z h a1 ([x0] : List Int32)) := by
  refine oC.of (b := false) (L := #[.val (.ref a1), .val (.ref p1)]) pn2 Z0 (fun q => (nomatch q)) (fun m => by first | (simp [entryFrame, mkF, argsToLocals, Value.category]; done) | rfl) ?_
  intro p e s m below meth c T H
  refine o_aloadN H rfl rfl d2_0 rfl ?_
  refine o_aloadN H rfl rfl d2_1 rfl ?_
  refine o_iconst H (0 : Int32) rfl d2_2 rfl ?_
  refine o_aloadN H rfl rfl d2_3 rfl ?_
  refine o_arraylength H (1 : Int32) AV1 rfl d2_4 rfl ?_
  refine o_aconst_null H d2_5 rfl ?_
  refine o_special H [(.ref p1), (.int (0 : Int32)), (.int (1 : Int32)), .null] [] (rm3_1 l Z a0 hw a1 p1 I hst cs fm x0 h0 n0 H.le E_a1 g_a1 F_value_a1 F_coder_a1 AV1 hch WW) rfl (w13 hw) (w14 hw) (w9 hw) (w16 hw) (by decide) (lenOf pd3 rfl) rfl rfl (by decide) (Nat.le_of_ble_eq_true rfl) (by decide) (by decide) d2_6 rfl (fun _ q => q) hst ?_
  intro T1 v1 h1 H1 q1
  obtain ⟨rfl, K1, T_1⟩ := q1
  have k2 := (Keep.refl h0 [a1]).trans K1 (allS (Or.inl (by simp)) all0)
  have f3 := E_a1.keep K1
  show oG p e below s n0 _ _ _ _ (T1.setTop (mkF m 9 #[.val (.ref a1), .val (.ref p1)] []))
  exact o_return H1 rfl d2_9 hst (fun _ q => q) (by decide) (by decide) ⟨rfl, k2, T_1⟩
set_option maxRecDepth 65536 in
set_option maxHeartbeats 40000000 in
theorem rm3_2 (l : Launch) (Z : State) (a0 : Array Value) (hw : ∀ d ∈ tables_1, d.before a0 Z = true) (a1 : Addr) (p1 : Addr) (I : Vm → Prop) (hst : oSt I) (cs : Int32) (fm : Value) (x0 x1 : Int32) (h0 : Heap) (n0 : Nat) (Z0 : n0 ≤ h0.size) (E_a1 : Exa Z h0 a1 "java/lang/String") (g_a1 : n0 ≤ a1) (F_value_a1 : Fld Z h0 a1 "java/lang/String" "value" "[B" .null) (F_coder_a1 : Fld Z h0 a1 "java/lang/String" "coder" "B" (.int (0 : Int32))) (AV1 : oA .char Z h0 p1 [(.int x0), (.int x1)]) (hch : ∀ u ∈ ([x0, x1] : List Int32), own_chr u) (WW : own_W Z h0 cs fm) :
    oC l Z n0 I (fun _ => I) (⟨"java/lang/String", "<init>", "([CIILjava/lang/Void;)V"⟩ : MethodName) jdk_42_method_149_code 6 none ({ frames := 4, cells := 2, slots := 12, locals := 64 } : Room) 2 12 #[(.ref a1), (.ref p1), (.int (0 : Int32)), (.int (2 : Int32)), .null] h0 (fun v h => v = none ∧ Keep h0 h [a1] ∧ own_T Z h a1 ([x0, x1] : List Int32)) := by
  refine oC.of (b := false) (L := #[.val (.ref a1), .val (.ref p1), .val (.int (0 : Int32)), .val (.int (2 : Int32)), .val .null, .unset]) pn3 Z0 (fun q => (nomatch q)) (fun m => by first | (simp [entryFrame, mkF, argsToLocals, Value.category]; done) | rfl) ?_
  intro p e s m below meth c T H
  refine o_aloadN H rfl rfl d3_0 rfl ?_
  refine o_initO H (w17 hw) (w18 hw) (w19 hw) d3_1 rfl rfl (by decide) (Nat.le_of_ble_eq_true rfl) ?_
  intro T1 H2
  refine o_iloadN H2 rfl d3_4 rfl ?_
  refine o_if_t H2 d3_5 (by decide) (pt := 27) (by decide) (by decide) ?_
  refine o_getS H2 (host := "") (Or.inl (w42 hw)) WW.1 d3_27 rfl ?_
  intro T3 H4
  refine o_if_f H4 d3_30 (XT.i0_eq_f WW.2.1) rfl ?_
  refine o_aloadN H4 rfl rfl d3_33 rfl ?_
  refine o_iloadN H4 rfl d3_34 rfl ?_
  refine o_iloadN H4 rfl d3_35 rfl ?_
  refine o_static H4 [(.ref p1), (.int (0 : Int32)), (.int (2 : Int32))] [] (rm9_2 l Z a0 hw p1 I hst cs fm x0 x1 h0 n0 H4.le AV1 hch WW) (w49 hw) (w50 hw) (w51 hw) (w52 hw) (by decide) (lenOf pd9 rfl) rfl rfl (by decide) (Nat.le_of_ble_eq_true rfl) (by decide) (by decide) d3_36 rfl (fun _ q => q) hst ?_
  intro T5 v5 h5 H5 q5
  obtain ⟨r5, co5, bs5, rfl, K5, y5, A5, hS5⟩ := q5
  have nr5 : r5 ≠ a1 := Nat.ne_of_gt (Nat.lt_of_lt_of_le E_a1.lt y5)
  have k6 := (Keep.refl h0 [a1]).trans K5 all0
  have f7 := E_a1.keep K5
  have f8 := F_value_a1.keep K5 nin0
  have f9 := F_coder_a1.keep K5 nin0
  show oG p e below s n0 _ _ _ _ (T5.setTop (mkF m 39 #[.val (.ref a1), .val (.ref p1), .val (.int (0 : Int32)), .val (.int (2 : Int32)), .val .null, .unset] [(.ref r5)]))
  refine o_astore H5 (L' := #[.val (.ref a1), .val (.ref p1), .val (.int (0 : Int32)), .val (.int (2 : Int32)), .val .null, .val (.ref r5)]) rfl rfl d3_39 rfl ?_
  refine o_aloadN H5 rfl rfl d3_41 rfl ?_
  refine o_aload H5 rfl rfl d3_42 rfl ?_
  refine o_iloadN H5 rfl d3_44 rfl ?_
  refine o_static H5 [(.ref r5), (.int (2 : Int32))] [(.ref a1)] ((rm11 l Z a0 hw r5 (2 : Int32) I hst bs5 h5 n0 H5.le A5).mono (fun v h q => (⟨q.1.trans (by rw [own_cfa (z := (2 : Int32)) hS5 (Nat.le_of_ble_eq_true rfl) (Nat.le_of_ble_eq_true rfl) rfl]), q.2⟩ : v = some (.int co5) ∧ h5 = h))) (w56 hw) (w57 hw) (w51 hw) (w58 hw) (by decide) (lenOf pd11 rfl) rfl rfl (by decide) (Nat.le_of_ble_eq_true rfl) (by decide) (by decide) d3_45 rfl (fun _ q => q) hst ?_
  intro T10 v10 h10 H10 q10
  obtain ⟨rfl, rfl⟩ := q10
  show oG p e below s n0 _ _ _ _ (T10.setTop (mkF m 48 #[.val (.ref a1), .val (.ref p1), .val (.int (0 : Int32)), .val (.int (2 : Int32)), .val .null, .val (.ref r5)] [(.int co5), (.ref a1)]))
  refine o_putFN H10 (w27 hw) f9 f7 (Or.inr ⟨(w23 hw), rfl, rfl⟩) (w8 hw) (ty := .byte) (v' := (.int (nar .byte co5))) (by decide) rfl (fits_nar_byte _) g_a1 d3_48 rfl ?_
  intro T11 h11 H11 W11
  have k12 := k6.wr W11 (Or.inl (by simp))
  have f13 := f7.wr W11
  have f14 := f8.other W11 (Or.inr (slot_ne (Or.inr (w22 hw)) (Or.inr (w23 hw)) (by decide) (t := (.array .byte)) (t' := .byte) (by decide) (by decide)))
  have f15 := f9.same W11
  have f16 := A5.other W11 nr5
  refine o_aloadN H11 rfl rfl d3_51 rfl ?_
  refine o_aload H11 rfl rfl d3_52 rfl ?_
  refine o_putF H11 (host := "") (Or.inl (w26 hw)) f14 f13 (Or.inr ⟨(w22 hw), rfl, rfl⟩) (w8 hw) (ty := (.array .byte)) (by decide) rfl rfl g_a1 d3_54 rfl ?_
  intro T17 h17 H17 W17
  have k18 := k12.wr W17 (Or.inl (by simp))
  have f19 := f13.wr W17
  have f20 := f14.same W17
  have f21 := f15.other W17 (Or.inr (slot_ne (Or.inr (w23 hw)) (Or.inr (w22 hw)) (by decide) (t := .byte) (t' := (.array .byte)) (by decide) (by decide)))
  have f22 := f16.other W17 nr5
  have FX := f21
  rw [hS5.nar] at FX
  exact o_return H17 rfl d3_57 hst (fun _ q => q) (by decide) (by decide) ⟨rfl, k18, _, _, _, f19, f20, FX, f22, hS5⟩
set_option maxRecDepth 65536 in
set_option maxHeartbeats 40000000 in
theorem rm2_2 (l : Launch) (Z : State) (a0 : Array Value) (hw : ∀ d ∈ tables_1, d.before a0 Z = true) (a1 : Addr) (p1 : Addr) (I : Vm → Prop) (hst : oSt I) (cs : Int32) (fm : Value) (x0 x1 : Int32) (h0 : Heap) (n0 : Nat) (Z0 : n0 ≤ h0.size) (E_a1 : Exa Z h0 a1 "java/lang/String") (g_a1 : n0 ≤ a1) (F_value_a1 : Fld Z h0 a1 "java/lang/String" "value" "[B" .null) (F_coder_a1 : Fld Z h0 a1 "java/lang/String" "coder" "B" (.int (0 : Int32))) (AV1 : oA .char Z h0 p1 [(.int x0), (.int x1)]) (hch : ∀ u ∈ ([x0, x1] : List Int32), own_chr u) (WW : own_W Z h0 cs fm) :
    oC l Z n0 I (fun _ => I) (⟨"java/lang/String", "<init>", "([C)V"⟩ : MethodName) jdk_42_method_3_code 2 none ({ frames := 5, cells := 2, slots := 12, locals := 84 } : Room) 2 12 #[(.ref a1), (.ref p1)] h0 (fun v h => v = none ∧ Keep h0 h [a1] ∧ own_T Z h a1 ([x0, x1] : List Int32)) := by
  refine oC.of (b := false) (L := #[.val (.ref a1), .val (.ref p1)]) pn2 Z0 (fun q => (nomatch q)) (fun m => by first | (simp [entryFrame, mkF, argsToLocals, Value.category]; done) | rfl) ?_
  intro p e s m below meth c T H
  refine o_aloadN H rfl rfl d2_0 rfl ?_
  refine o_aloadN H rfl rfl d2_1 rfl ?_
  refine o_iconst H (0 : Int32) rfl d2_2 rfl ?_
  refine o_aloadN H rfl rfl d2_3 rfl ?_
  refine o_arraylength H (2 : Int32) AV1 rfl d2_4 rfl ?_
  refine o_aconst_null H d2_5 rfl ?_
  refine o_special H [(.ref p1), (.int (0 : Int32)), (.int (2 : Int32)), .null] [] (rm3_2 l Z a0 hw a1 p1 I hst cs fm x0 x1 h0 n0 H.le E_a1 g_a1 F_value_a1 F_coder_a1 AV1 hch WW) rfl (w13 hw) (w14 hw) (w9 hw) (w16 hw) (by decide) (lenOf pd3 rfl) rfl rfl (by decide) (Nat.le_of_ble_eq_true rfl) (by decide) (by decide) d2_6 rfl (fun _ q => q) hst ?_
  intro T1 v1 h1 H1 q1
  obtain ⟨rfl, K1, T_1⟩ := q1
  have k2 := (Keep.refl h0 [a1]).trans K1 (allS (Or.inl (by simp)) all0)
  have f3 := E_a1.keep K1
  show oG p e below s n0 _ _ _ _ (T1.setTop (mkF m 9 #[.val (.ref a1), .val (.ref p1)] []))
  exact o_return H1 rfl d2_9 hst (fun _ q => q) (by decide) (by decide) ⟨rfl, k2, T_1⟩
set_option maxRecDepth 65536 in
set_option maxHeartbeats 40000000 in
theorem rm3_3 (l : Launch) (Z : State) (a0 : Array Value) (hw : ∀ d ∈ tables_1, d.before a0 Z = true) (a1 : Addr) (p1 : Addr) (I : Vm → Prop) (hst : oSt I) (cs : Int32) (fm : Value) (x0 x1 x2 : Int32) (h0 : Heap) (n0 : Nat) (Z0 : n0 ≤ h0.size) (E_a1 : Exa Z h0 a1 "java/lang/String") (g_a1 : n0 ≤ a1) (F_value_a1 : Fld Z h0 a1 "java/lang/String" "value" "[B" .null) (F_coder_a1 : Fld Z h0 a1 "java/lang/String" "coder" "B" (.int (0 : Int32))) (AV1 : oA .char Z h0 p1 [(.int x0), (.int x1), (.int x2)]) (hch : ∀ u ∈ ([x0, x1, x2] : List Int32), own_chr u) (WW : own_W Z h0 cs fm) :
    oC l Z n0 I (fun _ => I) (⟨"java/lang/String", "<init>", "([CIILjava/lang/Void;)V"⟩ : MethodName) jdk_42_method_149_code 6 none ({ frames := 4, cells := 2, slots := 12, locals := 64 } : Room) 2 12 #[(.ref a1), (.ref p1), (.int (0 : Int32)), (.int (3 : Int32)), .null] h0 (fun v h => v = none ∧ Keep h0 h [a1] ∧ own_T Z h a1 ([x0, x1, x2] : List Int32)) := by
  refine oC.of (b := false) (L := #[.val (.ref a1), .val (.ref p1), .val (.int (0 : Int32)), .val (.int (3 : Int32)), .val .null, .unset]) pn3 Z0 (fun q => (nomatch q)) (fun m => by first | (simp [entryFrame, mkF, argsToLocals, Value.category]; done) | rfl) ?_
  intro p e s m below meth c T H
  refine o_aloadN H rfl rfl d3_0 rfl ?_
  refine o_initO H (w17 hw) (w18 hw) (w19 hw) d3_1 rfl rfl (by decide) (Nat.le_of_ble_eq_true rfl) ?_
  intro T1 H2
  refine o_iloadN H2 rfl d3_4 rfl ?_
  refine o_if_t H2 d3_5 (by decide) (pt := 27) (by decide) (by decide) ?_
  refine o_getS H2 (host := "") (Or.inl (w42 hw)) WW.1 d3_27 rfl ?_
  intro T3 H4
  refine o_if_f H4 d3_30 (XT.i0_eq_f WW.2.1) rfl ?_
  refine o_aloadN H4 rfl rfl d3_33 rfl ?_
  refine o_iloadN H4 rfl d3_34 rfl ?_
  refine o_iloadN H4 rfl d3_35 rfl ?_
  refine o_static H4 [(.ref p1), (.int (0 : Int32)), (.int (3 : Int32))] [] (rm9_3 l Z a0 hw p1 I hst cs fm x0 x1 x2 h0 n0 H4.le AV1 hch WW) (w49 hw) (w50 hw) (w51 hw) (w52 hw) (by decide) (lenOf pd9 rfl) rfl rfl (by decide) (Nat.le_of_ble_eq_true rfl) (by decide) (by decide) d3_36 rfl (fun _ q => q) hst ?_
  intro T5 v5 h5 H5 q5
  obtain ⟨r5, co5, bs5, rfl, K5, y5, A5, hS5⟩ := q5
  have nr5 : r5 ≠ a1 := Nat.ne_of_gt (Nat.lt_of_lt_of_le E_a1.lt y5)
  have k6 := (Keep.refl h0 [a1]).trans K5 all0
  have f7 := E_a1.keep K5
  have f8 := F_value_a1.keep K5 nin0
  have f9 := F_coder_a1.keep K5 nin0
  show oG p e below s n0 _ _ _ _ (T5.setTop (mkF m 39 #[.val (.ref a1), .val (.ref p1), .val (.int (0 : Int32)), .val (.int (3 : Int32)), .val .null, .unset] [(.ref r5)]))
  refine o_astore H5 (L' := #[.val (.ref a1), .val (.ref p1), .val (.int (0 : Int32)), .val (.int (3 : Int32)), .val .null, .val (.ref r5)]) rfl rfl d3_39 rfl ?_
  refine o_aloadN H5 rfl rfl d3_41 rfl ?_
  refine o_aload H5 rfl rfl d3_42 rfl ?_
  refine o_iloadN H5 rfl d3_44 rfl ?_
  refine o_static H5 [(.ref r5), (.int (3 : Int32))] [(.ref a1)] ((rm11 l Z a0 hw r5 (3 : Int32) I hst bs5 h5 n0 H5.le A5).mono (fun v h q => (⟨q.1.trans (by rw [own_cfa (z := (3 : Int32)) hS5 (Nat.le_of_ble_eq_true rfl) (Nat.le_of_ble_eq_true rfl) rfl]), q.2⟩ : v = some (.int co5) ∧ h5 = h))) (w56 hw) (w57 hw) (w51 hw) (w58 hw) (by decide) (lenOf pd11 rfl) rfl rfl (by decide) (Nat.le_of_ble_eq_true rfl) (by decide) (by decide) d3_45 rfl (fun _ q => q) hst ?_
  intro T10 v10 h10 H10 q10
  obtain ⟨rfl, rfl⟩ := q10
  show oG p e below s n0 _ _ _ _ (T10.setTop (mkF m 48 #[.val (.ref a1), .val (.ref p1), .val (.int (0 : Int32)), .val (.int (3 : Int32)), .val .null, .val (.ref r5)] [(.int co5), (.ref a1)]))
  refine o_putFN H10 (w27 hw) f9 f7 (Or.inr ⟨(w23 hw), rfl, rfl⟩) (w8 hw) (ty := .byte) (v' := (.int (nar .byte co5))) (by decide) rfl (fits_nar_byte _) g_a1 d3_48 rfl ?_
  intro T11 h11 H11 W11
  have k12 := k6.wr W11 (Or.inl (by simp))
  have f13 := f7.wr W11
  have f14 := f8.other W11 (Or.inr (slot_ne (Or.inr (w22 hw)) (Or.inr (w23 hw)) (by decide) (t := (.array .byte)) (t' := .byte) (by decide) (by decide)))
  have f15 := f9.same W11
  have f16 := A5.other W11 nr5
  refine o_aloadN H11 rfl rfl d3_51 rfl ?_
  refine o_aload H11 rfl rfl d3_52 rfl ?_
  refine o_putF H11 (host := "") (Or.inl (w26 hw)) f14 f13 (Or.inr ⟨(w22 hw), rfl, rfl⟩) (w8 hw) (ty := (.array .byte)) (by decide) rfl rfl g_a1 d3_54 rfl ?_
  intro T17 h17 H17 W17
  have k18 := k12.wr W17 (Or.inl (by simp))
  have f19 := f13.wr W17
  have f20 := f14.same W17
  have f21 := f15.other W17 (Or.inr (slot_ne (Or.inr (w23 hw)) (Or.inr (w22 hw)) (by decide) (t := .byte) (t' := (.array .byte)) (by decide) (by decide)))
  have f22 := f16.other W17 nr5
  have FX := f21
  rw [hS5.nar] at FX
  exact o_return H17 rfl d3_57 hst (fun _ q => q) (by decide) (by decide) ⟨rfl, k18, _, _, _, f19, f20, FX, f22, hS5⟩
set_option maxRecDepth 65536 in
set_option maxHeartbeats 40000000 in
theorem rm2_3 (l : Launch) (Z : State) (a0 : Array Value) (hw : ∀ d ∈ tables_1, d.before a0 Z = true) (a1 : Addr) (p1 : Addr) (I : Vm → Prop) (hst : oSt I) (cs : Int32) (fm : Value) (x0 x1 x2 : Int32) (h0 : Heap) (n0 : Nat) (Z0 : n0 ≤ h0.size) (E_a1 : Exa Z h0 a1 "java/lang/String") (g_a1 : n0 ≤ a1) (F_value_a1 : Fld Z h0 a1 "java/lang/String" "value" "[B" .null) (F_coder_a1 : Fld Z h0 a1 "java/lang/String" "coder" "B" (.int (0 : Int32))) (AV1 : oA .char Z h0 p1 [(.int x0), (.int x1), (.int x2)]) (hch : ∀ u ∈ ([x0, x1, x2] : List Int32), own_chr u) (WW : own_W Z h0 cs fm) :
    oC l Z n0 I (fun _ => I) (⟨"java/lang/String", "<init>", "([C)V"⟩ : MethodName) jdk_42_method_3_code 2 none ({ frames := 5, cells := 2, slots := 12, locals := 84 } : Room) 2 12 #[(.ref a1), (.ref p1)] h0 (fun v h => v = none ∧ Keep h0 h [a1] ∧ own_T Z h a1 ([x0, x1, x2] : List Int32)) := by
  refine oC.of (b := false) (L := #[.val (.ref a1), .val (.ref p1)]) pn2 Z0 (fun q => (nomatch q)) (fun m => by first | (simp [entryFrame, mkF, argsToLocals, Value.category]; done) | rfl) ?_
  intro p e s m below meth c T H
  refine o_aloadN H rfl rfl d2_0 rfl ?_
  refine o_aloadN H rfl rfl d2_1 rfl ?_
  refine o_iconst H (0 : Int32) rfl d2_2 rfl ?_
  refine o_aloadN H rfl rfl d2_3 rfl ?_
  refine o_arraylength H (3 : Int32) AV1 rfl d2_4 rfl ?_
  refine o_aconst_null H d2_5 rfl ?_
  refine o_special H [(.ref p1), (.int (0 : Int32)), (.int (3 : Int32)), .null] [] (rm3_3 l Z a0 hw a1 p1 I hst cs fm x0 x1 x2 h0 n0 H.le E_a1 g_a1 F_value_a1 F_coder_a1 AV1 hch WW) rfl (w13 hw) (w14 hw) (w9 hw) (w16 hw) (by decide) (lenOf pd3 rfl) rfl rfl (by decide) (Nat.le_of_ble_eq_true rfl) (by decide) (by decide) d2_6 rfl (fun _ q => q) hst ?_
  intro T1 v1 h1 H1 q1
  obtain ⟨rfl, K1, T_1⟩ := q1
  have k2 := (Keep.refl h0 [a1]).trans K1 (allS (Or.inl (by simp)) all0)
  have f3 := E_a1.keep K1
  show oG p e below s n0 _ _ _ _ (T1.setTop (mkF m 9 #[.val (.ref a1), .val (.ref p1)] []))
  exact o_return H1 rfl d2_9 hst (fun _ q => q) (by decide) (by decide) ⟨rfl, k2, T_1⟩
set_option maxRecDepth 65536 in
set_option maxHeartbeats 40000000 in
theorem rm3_4 (l : Launch) (Z : State) (a0 : Array Value) (hw : ∀ d ∈ tables_1, d.before a0 Z = true) (a1 : Addr) (p1 : Addr) (I : Vm → Prop) (hst : oSt I) (cs : Int32) (fm : Value) (x0 x1 x2 x3 : Int32) (h0 : Heap) (n0 : Nat) (Z0 : n0 ≤ h0.size) (E_a1 : Exa Z h0 a1 "java/lang/String") (g_a1 : n0 ≤ a1) (F_value_a1 : Fld Z h0 a1 "java/lang/String" "value" "[B" .null) (F_coder_a1 : Fld Z h0 a1 "java/lang/String" "coder" "B" (.int (0 : Int32))) (AV1 : oA .char Z h0 p1 [(.int x0), (.int x1), (.int x2), (.int x3)]) (hch : ∀ u ∈ ([x0, x1, x2, x3] : List Int32), own_chr u) (WW : own_W Z h0 cs fm) :
    oC l Z n0 I (fun _ => I) (⟨"java/lang/String", "<init>", "([CIILjava/lang/Void;)V"⟩ : MethodName) jdk_42_method_149_code 6 none ({ frames := 4, cells := 2, slots := 12, locals := 64 } : Room) 2 12 #[(.ref a1), (.ref p1), (.int (0 : Int32)), (.int (4 : Int32)), .null] h0 (fun v h => v = none ∧ Keep h0 h [a1] ∧ own_T Z h a1 ([x0, x1, x2, x3] : List Int32)) := by
  refine oC.of (b := false) (L := #[.val (.ref a1), .val (.ref p1), .val (.int (0 : Int32)), .val (.int (4 : Int32)), .val .null, .unset]) pn3 Z0 (fun q => (nomatch q)) (fun m => by first | (simp [entryFrame, mkF, argsToLocals, Value.category]; done) | rfl) ?_
  intro p e s m below meth c T H
  refine o_aloadN H rfl rfl d3_0 rfl ?_
  refine o_initO H (w17 hw) (w18 hw) (w19 hw) d3_1 rfl rfl (by decide) (Nat.le_of_ble_eq_true rfl) ?_
  intro T1 H2
  refine o_iloadN H2 rfl d3_4 rfl ?_
  refine o_if_t H2 d3_5 (by decide) (pt := 27) (by decide) (by decide) ?_
  refine o_getS H2 (host := "") (Or.inl (w42 hw)) WW.1 d3_27 rfl ?_
  intro T3 H4
  refine o_if_f H4 d3_30 (XT.i0_eq_f WW.2.1) rfl ?_
  refine o_aloadN H4 rfl rfl d3_33 rfl ?_
  refine o_iloadN H4 rfl d3_34 rfl ?_
  refine o_iloadN H4 rfl d3_35 rfl ?_
  refine o_static H4 [(.ref p1), (.int (0 : Int32)), (.int (4 : Int32))] [] (rm9_4 l Z a0 hw p1 I hst cs fm x0 x1 x2 x3 h0 n0 H4.le AV1 hch WW) (w49 hw) (w50 hw) (w51 hw) (w52 hw) (by decide) (lenOf pd9 rfl) rfl rfl (by decide) (Nat.le_of_ble_eq_true rfl) (by decide) (by decide) d3_36 rfl (fun _ q => q) hst ?_
  intro T5 v5 h5 H5 q5
  obtain ⟨r5, co5, bs5, rfl, K5, y5, A5, hS5⟩ := q5
  have nr5 : r5 ≠ a1 := Nat.ne_of_gt (Nat.lt_of_lt_of_le E_a1.lt y5)
  have k6 := (Keep.refl h0 [a1]).trans K5 all0
  have f7 := E_a1.keep K5
  have f8 := F_value_a1.keep K5 nin0
  have f9 := F_coder_a1.keep K5 nin0
  show oG p e below s n0 _ _ _ _ (T5.setTop (mkF m 39 #[.val (.ref a1), .val (.ref p1), .val (.int (0 : Int32)), .val (.int (4 : Int32)), .val .null, .unset] [(.ref r5)]))
  refine o_astore H5 (L' := #[.val (.ref a1), .val (.ref p1), .val (.int (0 : Int32)), .val (.int (4 : Int32)), .val .null, .val (.ref r5)]) rfl rfl d3_39 rfl ?_
  refine o_aloadN H5 rfl rfl d3_41 rfl ?_
  refine o_aload H5 rfl rfl d3_42 rfl ?_
  refine o_iloadN H5 rfl d3_44 rfl ?_
  refine o_static H5 [(.ref r5), (.int (4 : Int32))] [(.ref a1)] ((rm11 l Z a0 hw r5 (4 : Int32) I hst bs5 h5 n0 H5.le A5).mono (fun v h q => (⟨q.1.trans (by rw [own_cfa (z := (4 : Int32)) hS5 (Nat.le_of_ble_eq_true rfl) (Nat.le_of_ble_eq_true rfl) rfl]), q.2⟩ : v = some (.int co5) ∧ h5 = h))) (w56 hw) (w57 hw) (w51 hw) (w58 hw) (by decide) (lenOf pd11 rfl) rfl rfl (by decide) (Nat.le_of_ble_eq_true rfl) (by decide) (by decide) d3_45 rfl (fun _ q => q) hst ?_
  intro T10 v10 h10 H10 q10
  obtain ⟨rfl, rfl⟩ := q10
  show oG p e below s n0 _ _ _ _ (T10.setTop (mkF m 48 #[.val (.ref a1), .val (.ref p1), .val (.int (0 : Int32)), .val (.int (4 : Int32)), .val .null, .val (.ref r5)] [(.int co5), (.ref a1)]))
  refine o_putFN H10 (w27 hw) f9 f7 (Or.inr ⟨(w23 hw), rfl, rfl⟩) (w8 hw) (ty := .byte) (v' := (.int (nar .byte co5))) (by decide) rfl (fits_nar_byte _) g_a1 d3_48 rfl ?_
  intro T11 h11 H11 W11
  have k12 := k6.wr W11 (Or.inl (by simp))
  have f13 := f7.wr W11
  have f14 := f8.other W11 (Or.inr (slot_ne (Or.inr (w22 hw)) (Or.inr (w23 hw)) (by decide) (t := (.array .byte)) (t' := .byte) (by decide) (by decide)))
  have f15 := f9.same W11
  have f16 := A5.other W11 nr5
  refine o_aloadN H11 rfl rfl d3_51 rfl ?_
  refine o_aload H11 rfl rfl d3_52 rfl ?_
  refine o_putF H11 (host := "") (Or.inl (w26 hw)) f14 f13 (Or.inr ⟨(w22 hw), rfl, rfl⟩) (w8 hw) (ty := (.array .byte)) (by decide) rfl rfl g_a1 d3_54 rfl ?_
  intro T17 h17 H17 W17
  have k18 := k12.wr W17 (Or.inl (by simp))
  have f19 := f13.wr W17
  have f20 := f14.same W17
  have f21 := f15.other W17 (Or.inr (slot_ne (Or.inr (w23 hw)) (Or.inr (w22 hw)) (by decide) (t := .byte) (t' := (.array .byte)) (by decide) (by decide)))
  have f22 := f16.other W17 nr5
  have FX := f21
  rw [hS5.nar] at FX
  exact o_return H17 rfl d3_57 hst (fun _ q => q) (by decide) (by decide) ⟨rfl, k18, _, _, _, f19, f20, FX, f22, hS5⟩
set_option maxRecDepth 65536 in
set_option maxHeartbeats 40000000 in
theorem rm2_4 (l : Launch) (Z : State) (a0 : Array Value) (hw : ∀ d ∈ tables_1, d.before a0 Z = true) (a1 : Addr) (p1 : Addr) (I : Vm → Prop) (hst : oSt I) (cs : Int32) (fm : Value) (x0 x1 x2 x3 : Int32) (h0 : Heap) (n0 : Nat) (Z0 : n0 ≤ h0.size) (E_a1 : Exa Z h0 a1 "java/lang/String") (g_a1 : n0 ≤ a1) (F_value_a1 : Fld Z h0 a1 "java/lang/String" "value" "[B" .null) (F_coder_a1 : Fld Z h0 a1 "java/lang/String" "coder" "B" (.int (0 : Int32))) (AV1 : oA .char Z h0 p1 [(.int x0), (.int x1), (.int x2), (.int x3)]) (hch : ∀ u ∈ ([x0, x1, x2, x3] : List Int32), own_chr u) (WW : own_W Z h0 cs fm) :
    oC l Z n0 I (fun _ => I) (⟨"java/lang/String", "<init>", "([C)V"⟩ : MethodName) jdk_42_method_3_code 2 none ({ frames := 5, cells := 2, slots := 12, locals := 84 } : Room) 2 12 #[(.ref a1), (.ref p1)] h0 (fun v h => v = none ∧ Keep h0 h [a1] ∧ own_T Z h a1 ([x0, x1, x2, x3] : List Int32)) := by
  refine oC.of (b := false) (L := #[.val (.ref a1), .val (.ref p1)]) pn2 Z0 (fun q => (nomatch q)) (fun m => by first | (simp [entryFrame, mkF, argsToLocals, Value.category]; done) | rfl) ?_
  intro p e s m below meth c T H
  refine o_aloadN H rfl rfl d2_0 rfl ?_
  refine o_aloadN H rfl rfl d2_1 rfl ?_
  refine o_iconst H (0 : Int32) rfl d2_2 rfl ?_
  refine o_aloadN H rfl rfl d2_3 rfl ?_
  refine o_arraylength H (4 : Int32) AV1 rfl d2_4 rfl ?_
  refine o_aconst_null H d2_5 rfl ?_
  refine o_special H [(.ref p1), (.int (0 : Int32)), (.int (4 : Int32)), .null] [] (rm3_4 l Z a0 hw a1 p1 I hst cs fm x0 x1 x2 x3 h0 n0 H.le E_a1 g_a1 F_value_a1 F_coder_a1 AV1 hch WW) rfl (w13 hw) (w14 hw) (w9 hw) (w16 hw) (by decide) (lenOf pd3 rfl) rfl rfl (by decide) (Nat.le_of_ble_eq_true rfl) (by decide) (by decide) d2_6 rfl (fun _ q => q) hst ?_
  intro T1 v1 h1 H1 q1
  obtain ⟨rfl, K1, T_1⟩ := q1
  have k2 := (Keep.refl h0 [a1]).trans K1 (allS (Or.inl (by simp)) all0)
  have f3 := E_a1.keep K1
  show oG p e below s n0 _ _ _ _ (T1.setTop (mkF m 9 #[.val (.ref a1), .val (.ref p1)] []))
  exact o_return H1 rfl d2_9 hst (fun _ q => q) (by decide) (by decide) ⟨rfl, k2, T_1⟩
set_option maxRecDepth 65536 in
set_option maxHeartbeats 40000000 in
theorem rm3_0A (l : Launch) (Z : State) (a0 : Array Value) (hw : ∀ d ∈ tables_1, d.before a0 Z = true) (a1 : Addr) (p1 : Addr) (I : Vm → Prop) (hst : oSt I)  (h0 : Heap) (n0 : Nat) (Z0 : n0 ≤ h0.size) (E_a1 : Exa Z h0 a1 "java/lang/String") (g_a1 : n0 ≤ a1) (F_value_a1 : Fld Z h0 a1 "java/lang/String" "value" "[B" .null) (F_coder_a1 : Fld Z h0 a1 "java/lang/String" "coder" "B" (.int (0 : Int32))) (hh : Jvm.Lit.constHeld Z "java/lang/String" 7) (hcw : Jvm.Lit.compactW.before a0 Z = true) (hib : ∀ vm, I vm → IB Z vm []) (E0 : Ext Z.heap h0) :
    oC l Z n0 I (fun h vm => ∃ ab : Addr × Addr, own_LF Z h ab.1 ab.2 ∧ Lit (Z.setVm vm) "java/lang/String" 7 ab.1) (⟨"java/lang/String", "<init>", "([CIILjava/lang/Void;)V"⟩ : MethodName) jdk_42_method_149_code 6 none ({ frames := 4, cells := 2, slots := 12, locals := 64 } : Room) 2 12 #[(.ref a1), (.ref p1), (.int (0 : Int32)), (.int (0 : Int32)), .null] h0 (fun v h => v = none ∧ Keep h0 h [a1] ∧ own_T Z h a1 ([] : List Int32)) := by
  refine oC.of (b := true) (L := #[.val (.ref a1), .val (.ref p1), .val (.int (0 : Int32)), .val (.int (0 : Int32)), .val .null, .unset]) pn3 Z0 (fun _ => E0) (fun m => by first | (simp [entryFrame, mkF, argsToLocals, Value.category]; done) | rfl) ?_
  intro p e s m below meth c T H
  refine o_aloadN H rfl rfl d3_0 rfl ?_
  refine o_initO H (w17 hw) (w18 hw) (w19 hw) d3_1 rfl rfl (by decide) (Nat.le_of_ble_eq_true rfl) ?_
  intro T1 H2
  refine o_iloadN H2 rfl d3_4 rfl ?_
  refine o_if_f H2 d3_5 (by decide) rfl ?_
  refine o_aloadN H2 rfl rfl d3_8 rfl ?_
  refine o_ldcSW H2 (n := 0) rfl hib (w20 hw) (own_wS hw) hh hcw (z := 0) ⟨by simp, rfl⟩ (by decide) rfl d3_9 rfl (by decide) (by decide) (by decide) (by decide) ?_
  intro T3 h3 b3 c3 H3 E3 X3 C3 V3 A3
  have k4 := (Keep.refl h0 [a1]).ext E3
  have f5 := E_a1.ext E3
  have f6 := F_value_a1.ext E3
  have f7 := F_coder_a1.ext E3
  have ne_b : b3 ≠ a1 := V3.ne f6 (by simp)
  have ne_c : c3 ≠ a1 := own_ne0 A3 f6
  show oG p e below s n0 _ _ _ _ (T3.setTop (mkF m 11 #[.val (.ref a1), .val (.ref p1), .val (.int (0 : Int32)), .val (.int (0 : Int32)), .val .null, .unset] [(.ref b3), (.ref a1)]))
  refine o_getF H3 (host := "") (Or.inl (w26 hw)) V3 d3_11 rfl ?_
  intro T8 H9
  refine o_putF H9 (host := "") (Or.inl (w26 hw)) f6 f5 (Or.inr ⟨(w22 hw), rfl, rfl⟩) (w8 hw) (ty := (.array .byte)) (by decide) rfl rfl g_a1 d3_14 rfl ?_
  intro T10 h10 H10 W10
  have k11 := k4.wr W10 (Or.inl (by simp))
  have f12 := f5.wr W10
  have f13 := f6.same W10
  have f14 := f7.other W10 (Or.inr (slot_ne (Or.inr (w23 hw)) (Or.inr (w22 hw)) (by decide) (t := .byte) (t' := (.array .byte)) (by decide) (by decide)))
  have f15 := X3.wr W10
  have f16 := C3.other W10 (Or.inl ne_b)
  have f17 := V3.other W10 (Or.inl ne_b)
  have f18 := A3.other W10 ne_c
  refine o_aloadN H10 rfl rfl d3_17 rfl ?_
  refine o_ldcA H10 (a := b3) (w20 hw) (fun _ q => q) d3_18 rfl ?_
  refine o_getF H10 (host := "") (Or.inl (w27 hw)) f16 d3_20 rfl ?_
  intro T19 H20
  refine o_putFN H20 (w27 hw) f14 f12 (Or.inr ⟨(w23 hw), rfl, rfl⟩) (w8 hw) (ty := .byte) (v' := (.int (nar .byte (0 : Int32)))) (by decide) rfl (fits_nar_byte _) g_a1 d3_23 rfl ?_
  intro T21 h21 H21 W21
  have k22 := k11.wr W21 (Or.inl (by simp))
  have f23 := f12.wr W21
  have f24 := f13.other W21 (Or.inr (slot_ne (Or.inr (w22 hw)) (Or.inr (w23 hw)) (by decide) (t := (.array .byte)) (t' := .byte) (by decide) (by decide)))
  have f25 := f14.same W21
  have f26 := f15.wr W21
  have f27 := f16.other W21 (Or.inl ne_b)
  have f28 := f17.other W21 (Or.inl ne_b)
  have f29 := f18.other W21 ne_c
  exact o_return H21 rfl d3_26 oSt.lit (fun vm q => ⟨(b3, c3), ⟨f26, f27, f28, f29⟩, q⟩) (by decide) (by decide) ⟨rfl, k22, _, _, _, f23, f24, f25, f29, Or.inl ⟨rfl, rfl, by simp⟩⟩
set_option maxRecDepth 65536 in
set_option maxHeartbeats 40000000 in
theorem rm3_0B (l : Launch) (Z : State) (a0 : Array Value) (hw : ∀ d ∈ tables_1, d.before a0 Z = true) (a1 : Addr) (p1 : Addr) (I : Vm → Prop) (hst : oSt I) (lb lc : Addr) (h0 : Heap) (n0 : Nat) (Z0 : n0 ≤ h0.size) (E_a1 : Exa Z h0 a1 "java/lang/String") (g_a1 : n0 ≤ a1) (F_value_a1 : Fld Z h0 a1 "java/lang/String" "value" "[B" .null) (F_coder_a1 : Fld Z h0 a1 "java/lang/String" "coder" "B" (.int (0 : Int32))) (hL : ∀ vm, I vm → Lit (Z.setVm vm) "java/lang/String" 7 lb) (LF : own_LF Z h0 lb lc) :
    oC l Z n0 I (fun h vm => ∃ ab : Addr × Addr, own_LF Z h ab.1 ab.2 ∧ Lit (Z.setVm vm) "java/lang/String" 7 ab.1) (⟨"java/lang/String", "<init>", "([CIILjava/lang/Void;)V"⟩ : MethodName) jdk_42_method_149_code 6 none ({ frames := 4, cells := 2, slots := 12, locals := 64 } : Room) 2 12 #[(.ref a1), (.ref p1), (.int (0 : Int32)), (.int (0 : Int32)), .null] h0 (fun v h => v = none ∧ Keep h0 h [a1] ∧ own_T Z h a1 ([] : List Int32)) := by
  refine oC.of (b := false) (L := #[.val (.ref a1), .val (.ref p1), .val (.int (0 : Int32)), .val (.int (0 : Int32)), .val .null, .unset]) pn3 Z0 (fun q => (nomatch q)) (fun m => by first | (simp [entryFrame, mkF, argsToLocals, Value.category]; done) | rfl) ?_
  intro p e s m below meth c T H
  refine o_aloadN H rfl rfl d3_0 rfl ?_
  refine o_initO H (w17 hw) (w18 hw) (w19 hw) d3_1 rfl rfl (by decide) (Nat.le_of_ble_eq_true rfl) ?_
  intro T1 H2
  refine o_iloadN H2 rfl d3_4 rfl ?_
  refine o_if_f H2 d3_5 (by decide) rfl ?_
  refine o_aloadN H2 rfl rfl d3_8 rfl ?_
  have ne_b : lb ≠ a1 := LF.2.2.1.ne F_value_a1 (by simp)
  have ne_c : lc ≠ a1 := own_ne0 LF.2.2.2 F_value_a1
  refine o_ldcA H2 (a := lb) (w20 hw) hL d3_9 rfl ?_
  refine o_getF H2 (host := "") (Or.inl (w26 hw)) LF.2.2.1 d3_11 rfl ?_
  intro T3 H4
  refine o_putF H4 (host := "") (Or.inl (w26 hw)) F_value_a1 E_a1 (Or.inr ⟨(w22 hw), rfl, rfl⟩) (w8 hw) (ty := (.array .byte)) (by decide) rfl rfl g_a1 d3_14 rfl ?_
  intro T5 h5 H5 W5
  have k6 := (Keep.refl h0 [a1]).wr W5 (Or.inl (by simp))
  have f7 := E_a1.wr W5
  have f8 := F_value_a1.same W5
  have f9 := F_coder_a1.other W5 (Or.inr (slot_ne (Or.inr (w23 hw)) (Or.inr (w22 hw)) (by decide) (t := .byte) (t' := (.array .byte)) (by decide) (by decide)))
  have f10 := LF.1.wr W5
  have f11 := LF.2.1.other W5 (Or.inl ne_b)
  have f12 := LF.2.2.1.other W5 (Or.inl ne_b)
  have f13 := LF.2.2.2.other W5 ne_c
  refine o_aloadN H5 rfl rfl d3_17 rfl ?_
  refine o_ldcA H5 (a := lb) (w20 hw) hL d3_18 rfl ?_
  refine o_getF H5 (host := "") (Or.inl (w27 hw)) f11 d3_20 rfl ?_
  intro T14 H15
  refine o_putFN H15 (w27 hw) f9 f7 (Or.inr ⟨(w23 hw), rfl, rfl⟩) (w8 hw) (ty := .byte) (v' := (.int (nar .byte (0 : Int32)))) (by decide) rfl (fits_nar_byte _) g_a1 d3_23 rfl ?_
  intro T16 h16 H16 W16
  have k17 := k6.wr W16 (Or.inl (by simp))
  have f18 := f7.wr W16
  have f19 := f8.other W16 (Or.inr (slot_ne (Or.inr (w22 hw)) (Or.inr (w23 hw)) (by decide) (t := (.array .byte)) (t' := .byte) (by decide) (by decide)))
  have f20 := f9.same W16
  have f21 := f10.wr W16
  have f22 := f11.other W16 (Or.inl ne_b)
  have f23 := f12.other W16 (Or.inl ne_b)
  have f24 := f13.other W16 ne_c
  exact o_return H16 rfl d3_26 hst (fun vm q => ⟨(lb, lc), ⟨f21, f22, f23, f24⟩, hL _ q⟩) (by decide) (by decide) ⟨rfl, k17, _, _, _, f18, f19, f20, f24, Or.inl ⟨rfl, rfl, by simp⟩⟩
theorem rm3_0 (l : Launch) (Z : State) (a0 : Array Value) (hw : ∀ d ∈ tables_1, d.before a0 Z = true) (a1 p1 : Addr) (I : Vm → Prop) (hst : oSt I) (h0 : Heap) (n0 : Nat) (Z0 : n0 ≤ h0.size) (E_a1 : Exa Z h0 a1 "java/lang/String") (g_a1 : n0 ≤ a1) (F_value_a1 : Fld Z h0 a1 "java/lang/String" "value" "[B" .null) (F_coder_a1 : Fld Z h0 a1 "java/lang/String" "coder" "B" (.int (0 : Int32))) (hh : Jvm.Lit.constHeld Z "java/lang/String" 7) (hcw : Jvm.Lit.compactW.before a0 Z = true) (hpre : own_pre Z I h0) :
    oC l Z n0 I (fun h vm => ∃ ab : Addr × Addr, own_LF Z h ab.1 ab.2 ∧ Lit (Z.setVm vm) "java/lang/String" 7 ab.1) (⟨"java/lang/String", "<init>", "([CIILjava/lang/Void;)V"⟩ : MethodName) jdk_42_method_149_code 6 none ({ frames := 4, cells := 2, slots := 12, locals := 64 } : Room) 2 12 #[(.ref a1), (.ref p1), (.int (0 : Int32)), (.int (0 : Int32)), .null] h0 (fun v h => v = none ∧ Keep h0 h [a1] ∧ own_T Z h a1 ([] : List Int32)) := by
  rcases hpre with ⟨hib, E0⟩ | ⟨lb, lc, hL, LF⟩
  · exact rm3_0A l Z a0 hw a1 p1 I hst h0 n0 Z0 E_a1 g_a1 F_value_a1 F_coder_a1 hh hcw hib E0
  · exact rm3_0B l Z a0 hw a1 p1 I hst lb lc h0 n0 Z0 E_a1 g_a1 F_value_a1 F_coder_a1 hL LF
theorem own_lj {Z : State} {h : Heap} : oSt (fun vm => ∃ ab : Addr × Addr, own_LF Z h ab.1 ab.2 ∧ Lit (Z.setVm vm) "java/lang/String" 7 ab.1) := fun s vm hW ⟨ab, q1, q2⟩ => ⟨ab, q1, oSt.lit s vm hW q2⟩
set_option maxRecDepth 65536 in
set_option maxHeartbeats 40000000 in
theorem rm2_0 (l : Launch) (Z : State) (a0 : Array Value) (hw : ∀ d ∈ tables_1, d.before a0 Z = true) (a1 : Addr) (p1 : Addr) (I : Vm → Prop) (hst : oSt I)  (h0 : Heap) (n0 : Nat) (Z0 : n0 ≤ h0.size) (E_a1 : Exa Z h0 a1 "java/lang/String") (g_a1 : n0 ≤ a1) (F_value_a1 : Fld Z h0 a1 "java/lang/String" "value" "[B" .null) (F_coder_a1 : Fld Z h0 a1 "java/lang/String" "coder" "B" (.int (0 : Int32))) (AV1 : oA .char Z h0 p1 []) (hh : Jvm.Lit.constHeld Z "java/lang/String" 7) (hcw : Jvm.Lit.compactW.before a0 Z = true) (hpre : own_pre Z I h0) :
    oC l Z n0 I (fun h vm => ∃ ab : Addr × Addr, own_LF Z h ab.1 ab.2 ∧ Lit (Z.setVm vm) "java/lang/String" 7 ab.1) (⟨"java/lang/String", "<init>", "([C)V"⟩ : MethodName) jdk_42_method_3_code 2 none ({ frames := 5, cells := 2, slots := 12, locals := 84 } : Room) 2 12 #[(.ref a1), (.ref p1)] h0 (fun v h => v = none ∧ Keep h0 h [a1] ∧ own_T Z h a1 ([] : List Int32)) := by
  refine oC.of (b := false) (L := #[.val (.ref a1), .val (.ref p1)]) pn2 Z0 (fun q => (nomatch q)) (fun m => by first | (simp [entryFrame, mkF, argsToLocals, Value.category]; done) | rfl) ?_
  intro p e s m below meth c T H
  refine o_aloadN H rfl rfl d2_0 rfl ?_
  refine o_aloadN H rfl rfl d2_1 rfl ?_
  refine o_iconst H (0 : Int32) rfl d2_2 rfl ?_
  refine o_aloadN H rfl rfl d2_3 rfl ?_
  refine o_arraylength H (0 : Int32) AV1 rfl d2_4 rfl ?_
  refine o_aconst_null H d2_5 rfl ?_
  refine o_special H [(.ref p1), (.int (0 : Int32)), (.int (0 : Int32)), .null] [] (rm3_0 l Z a0 hw a1 p1 I hst  h0 n0 H.le E_a1 g_a1 F_value_a1 F_coder_a1 hh hcw hpre) rfl (w13 hw) (w14 hw) (w9 hw) (w16 hw) (by decide) (lenOf pd3 rfl) rfl rfl (by decide) (Nat.le_of_ble_eq_true rfl) (by decide) (by decide) d2_6 rfl (fun _ q => q) hst ?_
  intro T1 v1 h1 H1 q1
  obtain ⟨rfl, K1, T_1⟩ := q1
  have k2 := (Keep.refl h0 [a1]).trans K1 (allS (Or.inl (by simp)) all0)
  have f3 := E_a1.keep K1
  show oG p e below s n0 _ _ _ _ (T1.setTop (mkF m 9 #[.val (.ref a1), .val (.ref p1)] []))
  exact o_return H1 rfl d2_9 own_lj (fun _ q => q) (by decide) (by decide) ⟨rfl, k2, T_1⟩
theorem d1_0 : decode method_3_code 0 = .ok (.iload_n 0, 1) := by decide +kernel
theorem d1_1 : decode method_3_code 1 = .ok (.ifCond .ne 14, 3) := by decide +kernel
theorem d1_4 : decode method_3_code 4 = .ok (.new 22, 3) := by decide +kernel
theorem d1_7 : decode method_3_code 7 = .ok (.dup, 1) := by decide +kernel
theorem d1_8 : decode method_3_code 8 = .ok (.iconst 0, 1) := by decide +kernel
theorem d1_9 : decode method_3_code 9 = .ok (.newarray .char, 2) := by decide +kernel
theorem d1_11 : decode method_3_code 11 = .ok (.invokespecial 31, 3) := by decide +kernel
theorem d1_14 : decode method_3_code 14 = .ok (.areturn, 1) := by decide +kernel
theorem d1_15 : decode method_3_code 15 = .ok (.iload_n 0, 1) := by decide +kernel
theorem d1_16 : decode method_3_code 16 = .ok (.iconst 1, 1) := by decide +kernel
theorem d1_17 : decode method_3_code 17 = .ok (.if_icmp .ne 20, 3) := by decide +kernel
theorem d1_20 : decode method_3_code 20 = .ok (.new 22, 3) := by decide +kernel
theorem d1_23 : decode method_3_code 23 = .ok (.dup, 1) := by decide +kernel
theorem d1_24 : decode method_3_code 24 = .ok (.iconst 1, 1) := by decide +kernel
theorem d1_25 : decode method_3_code 25 = .ok (.newarray .char, 2) := by decide +kernel
theorem d1_27 : decode method_3_code 27 = .ok (.dup, 1) := by decide +kernel
theorem d1_28 : decode method_3_code 28 = .ok (.iconst 0, 1) := by decide +kernel
theorem d1_29 : decode method_3_code 29 = .ok (.aload_n 1, 1) := by decide +kernel
theorem d1_30 : decode method_3_code 30 = .ok (.iconst 0, 1) := by decide +kernel
theorem d1_31 : decode method_3_code 31 = .ok (.caload, 1) := by decide +kernel
theorem d1_32 : decode method_3_code 32 = .ok (.castore, 1) := by decide +kernel
theorem d1_33 : decode method_3_code 33 = .ok (.invokespecial 31, 3) := by decide +kernel
theorem d1_36 : decode method_3_code 36 = .ok (.areturn, 1) := by decide +kernel
theorem d1_37 : decode method_3_code 37 = .ok (.iload_n 0, 1) := by decide +kernel
theorem d1_38 : decode method_3_code 38 = .ok (.iconst 2, 1) := by decide +kernel
theorem d1_39 : decode method_3_code 39 = .ok (.if_icmp .ne 26, 3) := by decide +kernel
theorem d1_42 : decode method_3_code 42 = .ok (.new 22, 3) := by decide +kernel
theorem d1_45 : decode method_3_code 45 = .ok (.dup, 1) := by decide +kernel
theorem d1_46 : decode method_3_code 46 = .ok (.iconst 2, 1) := by decide +kernel
theorem d1_47 : decode method_3_code 47 = .ok (.newarray .char, 2) := by decide +kernel
theorem d1_49 : decode method_3_code 49 = .ok (.dup, 1) := by decide +kernel
theorem d1_50 : decode method_3_code 50 = .ok (.iconst 0, 1) := by decide +kernel
theorem d1_51 : decode method_3_code 51 = .ok (.aload_n 1, 1) := by decide +kernel
theorem d1_52 : decode method_3_code 52 = .ok (.iconst 0, 1) := by decide +kernel
theorem d1_53 : decode method_3_code 53 = .ok (.caload, 1) := by decide +kernel
theorem d1_54 : decode method_3_code 54 = .ok (.castore, 1) := by decide +kernel
theorem d1_55 : decode method_3_code 55 = .ok (.dup, 1) := by decide +kernel
theorem d1_56 : decode method_3_code 56 = .ok (.iconst 1, 1) := by decide +kernel
theorem d1_57 : decode method_3_code 57 = .ok (.aload_n 1, 1) := by decide +kernel
theorem d1_58 : decode method_3_code 58 = .ok (.iconst 1, 1) := by decide +kernel
theorem d1_59 : decode method_3_code 59 = .ok (.caload, 1) := by decide +kernel
theorem d1_60 : decode method_3_code 60 = .ok (.castore, 1) := by decide +kernel
theorem d1_61 : decode method_3_code 61 = .ok (.invokespecial 31, 3) := by decide +kernel
theorem d1_64 : decode method_3_code 64 = .ok (.areturn, 1) := by decide +kernel
theorem d1_65 : decode method_3_code 65 = .ok (.iload_n 0, 1) := by decide +kernel
theorem d1_66 : decode method_3_code 66 = .ok (.iconst 3, 1) := by decide +kernel
theorem d1_67 : decode method_3_code 67 = .ok (.if_icmp .ne 32, 3) := by decide +kernel
theorem d1_70 : decode method_3_code 70 = .ok (.new 22, 3) := by decide +kernel
theorem d1_73 : decode method_3_code 73 = .ok (.dup, 1) := by decide +kernel
theorem d1_74 : decode method_3_code 74 = .ok (.iconst 3, 1) := by decide +kernel
theorem d1_75 : decode method_3_code 75 = .ok (.newarray .char, 2) := by decide +kernel
theorem d1_77 : decode method_3_code 77 = .ok (.dup, 1) := by decide +kernel
theorem d1_78 : decode method_3_code 78 = .ok (.iconst 0, 1) := by decide +kernel
theorem d1_79 : decode method_3_code 79 = .ok (.aload_n 1, 1) := by decide +kernel
theorem d1_80 : decode method_3_code 80 = .ok (.iconst 0, 1) := by decide +kernel
theorem d1_81 : decode method_3_code 81 = .ok (.caload, 1) := by decide +kernel
theorem d1_82 : decode method_3_code 82 = .ok (.castore, 1) := by decide +kernel
theorem d1_83 : decode method_3_code 83 = .ok (.dup, 1) := by decide +kernel
theorem d1_84 : decode method_3_code 84 = .ok (.iconst 1, 1) := by decide +kernel
theorem d1_85 : decode method_3_code 85 = .ok (.aload_n 1, 1) := by decide +kernel
theorem d1_86 : decode method_3_code 86 = .ok (.iconst 1, 1) := by decide +kernel
theorem d1_87 : decode method_3_code 87 = .ok (.caload, 1) := by decide +kernel
theorem d1_88 : decode method_3_code 88 = .ok (.castore, 1) := by decide +kernel
theorem d1_89 : decode method_3_code 89 = .ok (.dup, 1) := by decide +kernel
theorem d1_90 : decode method_3_code 90 = .ok (.iconst 2, 1) := by decide +kernel
theorem d1_91 : decode method_3_code 91 = .ok (.aload_n 1, 1) := by decide +kernel
theorem d1_92 : decode method_3_code 92 = .ok (.iconst 2, 1) := by decide +kernel
theorem d1_93 : decode method_3_code 93 = .ok (.caload, 1) := by decide +kernel
theorem d1_94 : decode method_3_code 94 = .ok (.castore, 1) := by decide +kernel
theorem d1_95 : decode method_3_code 95 = .ok (.invokespecial 31, 3) := by decide +kernel
theorem d1_98 : decode method_3_code 98 = .ok (.areturn, 1) := by decide +kernel
theorem d1_99 : decode method_3_code 99 = .ok (.new 22, 3) := by decide +kernel
theorem d1_102 : decode method_3_code 102 = .ok (.dup, 1) := by decide +kernel
theorem d1_103 : decode method_3_code 103 = .ok (.iconst 4, 1) := by decide +kernel
theorem d1_104 : decode method_3_code 104 = .ok (.newarray .char, 2) := by decide +kernel
theorem d1_106 : decode method_3_code 106 = .ok (.dup, 1) := by decide +kernel
theorem d1_107 : decode method_3_code 107 = .ok (.iconst 0, 1) := by decide +kernel
theorem d1_108 : decode method_3_code 108 = .ok (.aload_n 1, 1) := by decide +kernel
theorem d1_109 : decode method_3_code 109 = .ok (.iconst 0, 1) := by decide +kernel
theorem d1_110 : decode method_3_code 110 = .ok (.caload, 1) := by decide +kernel
theorem d1_111 : decode method_3_code 111 = .ok (.castore, 1) := by decide +kernel
theorem d1_112 : decode method_3_code 112 = .ok (.dup, 1) := by decide +kernel
theorem d1_113 : decode method_3_code 113 = .ok (.iconst 1, 1) := by decide +kernel
theorem d1_114 : decode method_3_code 114 = .ok (.aload_n 1, 1) := by decide +kernel
theorem d1_115 : decode method_3_code 115 = .ok (.iconst 1, 1) := by decide +kernel
theorem d1_116 : decode method_3_code 116 = .ok (.caload, 1) := by decide +kernel
theorem d1_117 : decode method_3_code 117 = .ok (.castore, 1) := by decide +kernel
theorem d1_118 : decode method_3_code 118 = .ok (.dup, 1) := by decide +kernel
theorem d1_119 : decode method_3_code 119 = .ok (.iconst 2, 1) := by decide +kernel
theorem d1_120 : decode method_3_code 120 = .ok (.aload_n 1, 1) := by decide +kernel
theorem d1_121 : decode method_3_code 121 = .ok (.iconst 2, 1) := by decide +kernel
theorem d1_122 : decode method_3_code 122 = .ok (.caload, 1) := by decide +kernel
theorem d1_123 : decode method_3_code 123 = .ok (.castore, 1) := by decide +kernel
theorem d1_124 : decode method_3_code 124 = .ok (.dup, 1) := by decide +kernel
theorem d1_125 : decode method_3_code 125 = .ok (.iconst 3, 1) := by decide +kernel
theorem d1_126 : decode method_3_code 126 = .ok (.aload_n 1, 1) := by decide +kernel
theorem d1_127 : decode method_3_code 127 = .ok (.iconst 3, 1) := by decide +kernel
theorem d1_128 : decode method_3_code 128 = .ok (.caload, 1) := by decide +kernel
theorem d1_129 : decode method_3_code 129 = .ok (.castore, 1) := by decide +kernel
theorem d1_130 : decode method_3_code 130 = .ok (.invokespecial 31, 3) := by decide +kernel
theorem d1_133 : decode method_3_code 133 = .ok (.areturn, 1) := by decide +kernel
theorem pn1 : plainFor (⟨"com/example/encase/encase/codec/LabelsLowerAsciiPinLaw", "make", "(I[C)Ljava/lang/String;"⟩ : MethodName) = true := plainFor_of_name (by first | (simp [plainName, overriddenIn]; done) | decide +kernel)
theorem pd1 : parseMethodDescriptor "(I[C)Ljava/lang/String;" = some ⟨[.int, (.array .char)], some (.object "java/lang/String")⟩ := by decide +kernel
set_option maxRecDepth 65536 in
set_option maxHeartbeats 40000000 in
theorem rm1_0 (l : Launch) (Z : State) (a0 : Array Value) (hw : ∀ d ∈ tables_1, d.before a0 Z = true) (p2 : Addr) (I : Vm → Prop) (hst : oSt I) (cs : Int32) (fm : Value) (x0 x1 x2 x3 : Int32) (h0 : Heap) (n0 : Nat) (Z0 : n0 ≤ h0.size) (AV1 : oA .char Z h0 p2 [(.int x0), (.int x1), (.int x2), (.int x3)]) (hx0 : own_chr x0) (hx1 : own_chr x1) (hx2 : own_chr x2) (hx3 : own_chr x3) (WW : own_W Z h0 cs fm) (hh : Jvm.Lit.constHeld Z "java/lang/String" 7) (hcw : Jvm.Lit.compactW.before a0 Z = true) (hpre : own_pre Z I h0) :
    oC l Z n0 I (fun h vm => ∃ ab : Addr × Addr, own_LF Z h ab.1 ab.2 ∧ Lit (Z.setVm vm) "java/lang/String" 7 ab.1) (⟨"com/example/encase/encase/codec/LabelsLowerAsciiPinLaw", "make", "(I[C)Ljava/lang/String;"⟩ : MethodName) method_3_code 2 (some (.object "java/lang/String")) ({ frames := 6, cells := 4, slots := 20, locals := 100 } : Room) 4 20 #[(.int (0 : Int32)), (.ref p2)] h0 (fun v h => ∃ r, v = some (.ref r) ∧ Keep h0 h [] ∧ own_T Z h r ([] : List Int32)) := by
  refine oC.of (b := false) (L := #[.val (.int (0 : Int32)), .val (.ref p2)]) pn1 Z0 (fun q => (nomatch q)) (fun m => by first | (simp [entryFrame, mkF, argsToLocals, Value.category]; done) | rfl) ?_
  intro p e s m below meth c T H
  refine o_iloadN H rfl d1_0 rfl ?_
  refine o_if_f H d1_1 (by decide) rfl ?_
  refine o_new H (w7 hw) (w8 hw) (w9 hw) d1_4 rfl (by decide) (by decide) ?_
  intro T1 h1 b1 g1 H1 E1 A1 D1
  have ne1_p2 : p2 ≠ b1 := by rw [g1]; exact Nat.ne_of_lt (AV1).lt
  have z1 : n0 ≤ b1 := by rw [g1]; exact H.le
  have y1 : h0.size ≤ b1 := by rw [g1]; exact (Keep.refl h0 []).1
  have k2 := (Keep.refl h0 []).ext E1
  have f3 : Fld Z h1 b1 "java/lang/String" "value" "[B" .null := D1 (Or.inr (w22 hw)) (ty := (.array .byte)) (by decide)
  have f4 : Fld Z h1 b1 "java/lang/String" "coder" "B" (.int (0 : Int32)) := D1 (Or.inr (w23 hw)) (ty := .byte) (by decide)
  refine o_dup H1 rfl d1_7 rfl ?_
  refine o_iconst H1 (0 : Int32) rfl d1_8 rfl ?_
  refine o_newarr (aty := .char) H1 0 0 (w1 hw) (by decide) (by decide) (by decide) d1_9 rfl (by decide) (by decide) ?_
  intro T5 h5 b5 g5 H5 E5 A5
  have ne5_p2 : p2 ≠ b5 := by rw [g5]; exact Nat.ne_of_lt ((AV1.ext (o_kext k2))).lt
  have ne5_b1 : b1 ≠ b5 := by rw [g5]; exact Nat.ne_of_lt (A1).lt
  have z5 : n0 ≤ b5 := by rw [g5]; exact H1.le
  have y5 : h0.size ≤ b5 := by rw [g5]; exact k2.1
  have k6 := k2.ext E5
  have f7 := A1.ext E5
  have f8 := f3.ext E5
  have f9 := f4.ext E5
  have f10 : oA .char Z h5 b5 [] := A5
  refine o_special H5 [(.ref b5)] [(.ref b1)] (rm2_0 l Z a0 hw b1 b5 I hst  h5 n0 H5.le f7 z1 f8 f9 f10 hh hcw (hpre.ext (o_kext k6))) rfl (w10 hw) (w11 hw) (w9 hw) (w12 hw) (by decide) (lenOf pd2 rfl) rfl rfl (by decide) (Nat.le_of_ble_eq_true rfl) (by decide) (by decide) d1_11 rfl (fun _ q => q) hst ?_
  intro T11 v11 h11 H11 q11
  obtain ⟨rfl, K11, T_11⟩ := q11
  have k12 := k6.trans K11 (allS (Or.inr y1) all0)
  have f13 := f10.keep K11 (ninS (Ne.symm ne5_b1) nin0)
  show oG p e below s n0 _ _ _ _ (T11.setTop (mkF m 14 #[.val (.int (0 : Int32)), .val (.ref p2)] [(.ref b1)]))
  exact o_areturn H11 rfl rfl rfl rfl d1_14 own_lj (fun _ q => q) (by decide) (by decide) ⟨_, rfl, k12, T_11⟩
set_option maxRecDepth 65536 in
set_option maxHeartbeats 40000000 in
theorem rm1_1 (l : Launch) (Z : State) (a0 : Array Value) (hw : ∀ d ∈ tables_1, d.before a0 Z = true) (p2 : Addr) (I : Vm → Prop) (hst : oSt I) (cs : Int32) (fm : Value) (x0 x1 x2 x3 : Int32) (h0 : Heap) (n0 : Nat) (Z0 : n0 ≤ h0.size) (AV1 : oA .char Z h0 p2 [(.int x0), (.int x1), (.int x2), (.int x3)]) (hx0 : own_chr x0) (hx1 : own_chr x1) (hx2 : own_chr x2) (hx3 : own_chr x3) (WW : own_W Z h0 cs fm) :
    oC l Z n0 I (fun _ => I) (⟨"com/example/encase/encase/codec/LabelsLowerAsciiPinLaw", "make", "(I[C)Ljava/lang/String;"⟩ : MethodName) method_3_code 2 (some (.object "java/lang/String")) ({ frames := 6, cells := 4, slots := 20, locals := 100 } : Room) 4 20 #[(.int (1 : Int32)), (.ref p2)] h0 (fun v h => ∃ r, v = some (.ref r) ∧ Keep h0 h [] ∧ own_T Z h r ([x0] : List Int32)) := by
  refine oC.of (b := false) (L := #[.val (.int (1 : Int32)), .val (.ref p2)]) pn1 Z0 (fun q => (nomatch q)) (fun m => by first | (simp [entryFrame, mkF, argsToLocals, Value.category]; done) | rfl) ?_
  intro p e s m below meth c T H
  refine o_iloadN H rfl d1_0 rfl ?_
  refine o_if_t H d1_1 (by decide) (pt := 15) (by decide) (by decide) ?_
  refine o_iloadN H rfl d1_15 rfl ?_
  refine o_iconst H (1 : Int32) rfl d1_16 rfl ?_
  refine o_icmp_f H d1_17 (by decide) rfl ?_
  refine o_new H (w7 hw) (w8 hw) (w9 hw) d1_20 rfl (by decide) (by decide) ?_
  intro T1 h1 b1 g1 H1 E1 A1 D1
  have ne1_p2 : p2 ≠ b1 := by rw [g1]; exact Nat.ne_of_lt (AV1).lt
  have z1 : n0 ≤ b1 := by rw [g1]; exact H.le
  have y1 : h0.size ≤ b1 := by rw [g1]; exact (Keep.refl h0 []).1
  have k2 := (Keep.refl h0 []).ext E1
  have f3 : Fld Z h1 b1 "java/lang/String" "value" "[B" .null := D1 (Or.inr (w22 hw)) (ty := (.array .byte)) (by decide)
  have f4 : Fld Z h1 b1 "java/lang/String" "coder" "B" (.int (0 : Int32)) := D1 (Or.inr (w23 hw)) (ty := .byte) (by decide)
  refine o_dup H1 rfl d1_23 rfl ?_
  refine o_iconst H1 (1 : Int32) rfl d1_24 rfl ?_
  refine o_newarr (aty := .char) H1 1 1 (w1 hw) (by decide) (by decide) (by decide) d1_25 rfl (by decide) (by decide) ?_
  intro T5 h5 b5 g5 H5 E5 A5
  have ne5_p2 : p2 ≠ b5 := by rw [g5]; exact Nat.ne_of_lt ((AV1.ext (o_kext k2))).lt
  have ne5_b1 : b1 ≠ b5 := by rw [g5]; exact Nat.ne_of_lt (A1).lt
  have z5 : n0 ≤ b5 := by rw [g5]; exact H1.le
  have y5 : h0.size ≤ b5 := by rw [g5]; exact k2.1
  have k6 := k2.ext E5
  have f7 := A1.ext E5
  have f8 := f3.ext E5
  have f9 := f4.ext E5
  have f10 : oA .char Z h5 b5 [(.int 0)] := A5
  refine o_dup H5 rfl d1_27 rfl ?_
  refine o_iconst H5 (0 : Int32) rfl d1_28 rfl ?_
  refine o_aloadN H5 rfl rfl d1_29 rfl ?_
  refine o_iconst H5 (0 : Int32) rfl d1_30 rfl ?_
  refine o_caload H5 0 (.int x0) (AV1.ext (o_kext k6)) (by decide) rfl d1_31 rfl ?_
  refine o_castore H5 0 f10 (by decide) (Nat.le_of_ble_eq_true rfl) z5 d1_32 rfl ?_
  intro T11 h11 H11 W11 A11
  have k12 := k6.wr W11 (Or.inr y5)
  have f13 := f7.wr W11
  have f14 := f8.other W11 (Or.inl ne5_b1)
  have f15 := f9.other W11 (Or.inl ne5_b1)
  have f16 : oA .char Z h11 b5 [(.int (nar .char x0))] := A11
  have AX : oA .char Z h11 b5 [(.int x0)] := by
    have q := f16
    rw [own_narc hx0] at q
    exact q
  have hcx : ∀ u ∈ ([x0] : List Int32), own_chr u := by
    intro u hu; simp only [List.mem_cons, List.not_mem_nil, or_false] at hu
    rcases hu with rfl <;> assumption
  refine o_special H11 [(.ref b5)] [(.ref b1)] (rm2_1 l Z a0 hw b1 b5 I hst cs fm x0 h11 n0 H11.le f13 z1 f14 f15 AX hcx (WW.ext (o_kext k12))) rfl (w10 hw) (w11 hw) (w9 hw) (w12 hw) (by decide) (lenOf pd2 rfl) rfl rfl (by decide) (Nat.le_of_ble_eq_true rfl) (by decide) (by decide) d1_33 rfl (fun _ q => q) hst ?_
  intro T17 v17 h17 H17 q17
  obtain ⟨rfl, K17, T_17⟩ := q17
  have k18 := k12.trans K17 (allS (Or.inr y1) all0)
  have f19 := AX.keep K17 (ninS (Ne.symm ne5_b1) nin0)
  show oG p e below s n0 _ _ _ _ (T17.setTop (mkF m 36 #[.val (.int (1 : Int32)), .val (.ref p2)] [(.ref b1)]))
  exact o_areturn H17 rfl rfl rfl rfl d1_36 hst (fun _ q => q) (by decide) (by decide) ⟨_, rfl, k18, T_17⟩
set_option maxRecDepth 65536 in
set_option maxHeartbeats 40000000 in
theorem rm1_2 (l : Launch) (Z : State) (a0 : Array Value) (hw : ∀ d ∈ tables_1, d.before a0 Z = true) (p2 : Addr) (I : Vm → Prop) (hst : oSt I) (cs : Int32) (fm : Value) (x0 x1 x2 x3 : Int32) (h0 : Heap) (n0 : Nat) (Z0 : n0 ≤ h0.size) (AV1 : oA .char Z h0 p2 [(.int x0), (.int x1), (.int x2), (.int x3)]) (hx0 : own_chr x0) (hx1 : own_chr x1) (hx2 : own_chr x2) (hx3 : own_chr x3) (WW : own_W Z h0 cs fm) :
    oC l Z n0 I (fun _ => I) (⟨"com/example/encase/encase/codec/LabelsLowerAsciiPinLaw", "make", "(I[C)Ljava/lang/String;"⟩ : MethodName) method_3_code 2 (some (.object "java/lang/String")) ({ frames := 6, cells := 4, slots := 20, locals := 100 } : Room) 4 20 #[(.int (2 : Int32)), (.ref p2)] h0 (fun v h => ∃ r, v = some (.ref r) ∧ Keep h0 h [] ∧ own_T Z h r ([x0, x1] : List Int32)) := by
  refine oC.of (b := false) (L := #[.val (.int (2 : Int32)), .val (.ref p2)]) pn1 Z0 (fun q => (nomatch q)) (fun m => by first | (simp [entryFrame, mkF, argsToLocals, Value.category]; done) | rfl) ?_
  intro p e s m below meth c T H
  refine o_iloadN H rfl d1_0 rfl ?_
  refine o_if_t H d1_1 (by decide) (pt := 15) (by decide) (by decide) ?_
  refine o_iloadN H rfl d1_15 rfl ?_
  refine o_iconst H (1 : Int32) rfl d1_16 rfl ?_
  refine o_icmp_t H d1_17 (by decide) (pt := 37) (by decide) (by decide) ?_
  refine o_iloadN H rfl d1_37 rfl ?_
  refine o_iconst H (2 : Int32) rfl d1_38 rfl ?_
  refine o_icmp_f H d1_39 (by decide) rfl ?_
  refine o_new H (w7 hw) (w8 hw) (w9 hw) d1_42 rfl (by decide) (by decide) ?_
  intro T1 h1 b1 g1 H1 E1 A1 D1
  have ne1_p2 : p2 ≠ b1 := by rw [g1]; exact Nat.ne_of_lt (AV1).lt
  have z1 : n0 ≤ b1 := by rw [g1]; exact H.le
  have y1 : h0.size ≤ b1 := by rw [g1]; exact (Keep.refl h0 []).1
  have k2 := (Keep.refl h0 []).ext E1
  have f3 : Fld Z h1 b1 "java/lang/String" "value" "[B" .null := D1 (Or.inr (w22 hw)) (ty := (.array .byte)) (by decide)
  have f4 : Fld Z h1 b1 "java/lang/String" "coder" "B" (.int (0 : Int32)) := D1 (Or.inr (w23 hw)) (ty := .byte) (by decide)
  refine o_dup H1 rfl d1_45 rfl ?_
  refine o_iconst H1 (2 : Int32) rfl d1_46 rfl ?_
  refine o_newarr (aty := .char) H1 2 2 (w1 hw) (by decide) (by decide) (by decide) d1_47 rfl (by decide) (by decide) ?_
  intro T5 h5 b5 g5 H5 E5 A5
  have ne5_p2 : p2 ≠ b5 := by rw [g5]; exact Nat.ne_of_lt ((AV1.ext (o_kext k2))).lt
  have ne5_b1 : b1 ≠ b5 := by rw [g5]; exact Nat.ne_of_lt (A1).lt
  have z5 : n0 ≤ b5 := by rw [g5]; exact H1.le
  have y5 : h0.size ≤ b5 := by rw [g5]; exact k2.1
  have k6 := k2.ext E5
  have f7 := A1.ext E5
  have f8 := f3.ext E5
  have f9 := f4.ext E5
  have f10 : oA .char Z h5 b5 [(.int 0), (.int 0)] := A5
  refine o_dup H5 rfl d1_49 rfl ?_
  refine o_iconst H5 (0 : Int32) rfl d1_50 rfl ?_
  refine o_aloadN H5 rfl rfl d1_51 rfl ?_
  refine o_iconst H5 (0 : Int32) rfl d1_52 rfl ?_
  refine o_caload H5 0 (.int x0) (AV1.ext (o_kext k6)) (by decide) rfl d1_53 rfl ?_
  refine o_castore H5 0 f10 (by decide) (Nat.le_of_ble_eq_true rfl) z5 d1_54 rfl ?_
  intro T11 h11 H11 W11 A11
  have k12 := k6.wr W11 (Or.inr y5)
  have f13 := f7.wr W11
  have f14 := f8.other W11 (Or.inl ne5_b1)
  have f15 := f9.other W11 (Or.inl ne5_b1)
  have f16 : oA .char Z h11 b5 [(.int (nar .char x0)), (.int 0)] := A11
  refine o_dup H11 rfl d1_55 rfl ?_
  refine o_iconst H11 (1 : Int32) rfl d1_56 rfl ?_
  refine o_aloadN H11 rfl rfl d1_57 rfl ?_
  refine o_iconst H11 (1 : Int32) rfl d1_58 rfl ?_
  refine o_caload H11 1 (.int x1) (AV1.ext (o_kext k12)) (by decide) rfl d1_59 rfl ?_
  refine o_castore H11 1 f16 (by decide) (Nat.le_of_ble_eq_true rfl) z5 d1_60 rfl ?_
  intro T17 h17 H17 W17 A17
  have k18 := k12.wr W17 (Or.inr y5)
  have f19 := f13.wr W17
  have f20 := f14.other W17 (Or.inl ne5_b1)
  have f21 := f15.other W17 (Or.inl ne5_b1)
  have f22 : oA .char Z h17 b5 [(.int (nar .char x0)), (.int (nar .char x1))] := A17
  have AX : oA .char Z h17 b5 [(.int x0), (.int x1)] := by
    have q := f22
    rw [own_narc hx0, own_narc hx1] at q
    exact q
  have hcx : ∀ u ∈ ([x0, x1] : List Int32), own_chr u := by
    intro u hu; simp only [List.mem_cons, List.not_mem_nil, or_false] at hu
    rcases hu with rfl | rfl <;> assumption
  refine o_special H17 [(.ref b5)] [(.ref b1)] (rm2_2 l Z a0 hw b1 b5 I hst cs fm x0 x1 h17 n0 H17.le f19 z1 f20 f21 AX hcx (WW.ext (o_kext k18))) rfl (w10 hw) (w11 hw) (w9 hw) (w12 hw) (by decide) (lenOf pd2 rfl) rfl rfl (by decide) (Nat.le_of_ble_eq_true rfl) (by decide) (by decide) d1_61 rfl (fun _ q => q) hst ?_
  intro T23 v23 h23 H23 q23
  obtain ⟨rfl, K23, T_23⟩ := q23
  have k24 := k18.trans K23 (allS (Or.inr y1) all0)
  have f25 := AX.keep K23 (ninS (Ne.symm ne5_b1) nin0)
  show oG p e below s n0 _ _ _ _ (T23.setTop (mkF m 64 #[.val (.int (2 : Int32)), .val (.ref p2)] [(.ref b1)]))
  exact o_areturn H23 rfl rfl rfl rfl d1_64 hst (fun _ q => q) (by decide) (by decide) ⟨_, rfl, k24, T_23⟩
set_option maxRecDepth 65536 in
set_option maxHeartbeats 40000000 in
theorem rm1_3 (l : Launch) (Z : State) (a0 : Array Value) (hw : ∀ d ∈ tables_1, d.before a0 Z = true) (p2 : Addr) (I : Vm → Prop) (hst : oSt I) (cs : Int32) (fm : Value) (x0 x1 x2 x3 : Int32) (h0 : Heap) (n0 : Nat) (Z0 : n0 ≤ h0.size) (AV1 : oA .char Z h0 p2 [(.int x0), (.int x1), (.int x2), (.int x3)]) (hx0 : own_chr x0) (hx1 : own_chr x1) (hx2 : own_chr x2) (hx3 : own_chr x3) (WW : own_W Z h0 cs fm) :
    oC l Z n0 I (fun _ => I) (⟨"com/example/encase/encase/codec/LabelsLowerAsciiPinLaw", "make", "(I[C)Ljava/lang/String;"⟩ : MethodName) method_3_code 2 (some (.object "java/lang/String")) ({ frames := 6, cells := 4, slots := 20, locals := 100 } : Room) 4 20 #[(.int (3 : Int32)), (.ref p2)] h0 (fun v h => ∃ r, v = some (.ref r) ∧ Keep h0 h [] ∧ own_T Z h r ([x0, x1, x2] : List Int32)) := by
  refine oC.of (b := false) (L := #[.val (.int (3 : Int32)), .val (.ref p2)]) pn1 Z0 (fun q => (nomatch q)) (fun m => by first | (simp [entryFrame, mkF, argsToLocals, Value.category]; done) | rfl) ?_
  intro p e s m below meth c T H
  refine o_iloadN H rfl d1_0 rfl ?_
  refine o_if_t H d1_1 (by decide) (pt := 15) (by decide) (by decide) ?_
  refine o_iloadN H rfl d1_15 rfl ?_
  refine o_iconst H (1 : Int32) rfl d1_16 rfl ?_
  refine o_icmp_t H d1_17 (by decide) (pt := 37) (by decide) (by decide) ?_
  refine o_iloadN H rfl d1_37 rfl ?_
  refine o_iconst H (2 : Int32) rfl d1_38 rfl ?_
  refine o_icmp_t H d1_39 (by decide) (pt := 65) (by decide) (by decide) ?_
  refine o_iloadN H rfl d1_65 rfl ?_
  refine o_iconst H (3 : Int32) rfl d1_66 rfl ?_
  refine o_icmp_f H d1_67 (by decide) rfl ?_
  refine o_new H (w7 hw) (w8 hw) (w9 hw) d1_70 rfl (by decide) (by decide) ?_
  intro T1 h1 b1 g1 H1 E1 A1 D1
  have ne1_p2 : p2 ≠ b1 := by rw [g1]; exact Nat.ne_of_lt (AV1).lt
  have z1 : n0 ≤ b1 := by rw [g1]; exact H.le
  have y1 : h0.size ≤ b1 := by rw [g1]; exact (Keep.refl h0 []).1
  have k2 := (Keep.refl h0 []).ext E1
  have f3 : Fld Z h1 b1 "java/lang/String" "value" "[B" .null := D1 (Or.inr (w22 hw)) (ty := (.array .byte)) (by decide)
  have f4 : Fld Z h1 b1 "java/lang/String" "coder" "B" (.int (0 : Int32)) := D1 (Or.inr (w23 hw)) (ty := .byte) (by decide)
  refine o_dup H1 rfl d1_73 rfl ?_
  refine o_iconst H1 (3 : Int32) rfl d1_74 rfl ?_
  refine o_newarr (aty := .char) H1 3 3 (w1 hw) (by decide) (by decide) (by decide) d1_75 rfl (by decide) (by decide) ?_
  intro T5 h5 b5 g5 H5 E5 A5
  have ne5_p2 : p2 ≠ b5 := by rw [g5]; exact Nat.ne_of_lt ((AV1.ext (o_kext k2))).lt
  have ne5_b1 : b1 ≠ b5 := by rw [g5]; exact Nat.ne_of_lt (A1).lt
  have z5 : n0 ≤ b5 := by rw [g5]; exact H1.le
  have y5 : h0.size ≤ b5 := by rw [g5]; exact k2.1
  have k6 := k2.ext E5
  have f7 := A1.ext E5
  have f8 := f3.ext E5
  have f9 := f4.ext E5
  have f10 : oA .char Z h5 b5 [(.int 0), (.int 0), (.int 0)] := A5
  refine o_dup H5 rfl d1_77 rfl ?_
  refine o_iconst H5 (0 : Int32) rfl d1_78 rfl ?_
  refine o_aloadN H5 rfl rfl d1_79 rfl ?_
  refine o_iconst H5 (0 : Int32) rfl d1_80 rfl ?_
  refine o_caload H5 0 (.int x0) (AV1.ext (o_kext k6)) (by decide) rfl d1_81 rfl ?_
  refine o_castore H5 0 f10 (by decide) (Nat.le_of_ble_eq_true rfl) z5 d1_82 rfl ?_
  intro T11 h11 H11 W11 A11
  have k12 := k6.wr W11 (Or.inr y5)
  have f13 := f7.wr W11
  have f14 := f8.other W11 (Or.inl ne5_b1)
  have f15 := f9.other W11 (Or.inl ne5_b1)
  have f16 : oA .char Z h11 b5 [(.int (nar .char x0)), (.int 0), (.int 0)] := A11
  refine o_dup H11 rfl d1_83 rfl ?_
  refine o_iconst H11 (1 : Int32) rfl d1_84 rfl ?_
  refine o_aloadN H11 rfl rfl d1_85 rfl ?_
  refine o_iconst H11 (1 : Int32) rfl d1_86 rfl ?_
  refine o_caload H11 1 (.int x1) (AV1.ext (o_kext k12)) (by decide) rfl d1_87 rfl ?_
  refine o_castore H11 1 f16 (by decide) (Nat.le_of_ble_eq_true rfl) z5 d1_88 rfl ?_
  intro T17 h17 H17 W17 A17
  have k18 := k12.wr W17 (Or.inr y5)
  have f19 := f13.wr W17
  have f20 := f14.other W17 (Or.inl ne5_b1)
  have f21 := f15.other W17 (Or.inl ne5_b1)
  have f22 : oA .char Z h17 b5 [(.int (nar .char x0)), (.int (nar .char x1)), (.int 0)] := A17
  refine o_dup H17 rfl d1_89 rfl ?_
  refine o_iconst H17 (2 : Int32) rfl d1_90 rfl ?_
  refine o_aloadN H17 rfl rfl d1_91 rfl ?_
  refine o_iconst H17 (2 : Int32) rfl d1_92 rfl ?_
  refine o_caload H17 2 (.int x2) (AV1.ext (o_kext k18)) (by decide) rfl d1_93 rfl ?_
  refine o_castore H17 2 f22 (by decide) (Nat.le_of_ble_eq_true rfl) z5 d1_94 rfl ?_
  intro T23 h23 H23 W23 A23
  have k24 := k18.wr W23 (Or.inr y5)
  have f25 := f19.wr W23
  have f26 := f20.other W23 (Or.inl ne5_b1)
  have f27 := f21.other W23 (Or.inl ne5_b1)
  have f28 : oA .char Z h23 b5 [(.int (nar .char x0)), (.int (nar .char x1)), (.int (nar .char x2))] := A23
  have AX : oA .char Z h23 b5 [(.int x0), (.int x1), (.int x2)] := by
    have q := f28
    rw [own_narc hx0, own_narc hx1, own_narc hx2] at q
    exact q
  have hcx : ∀ u ∈ ([x0, x1, x2] : List Int32), own_chr u := by
    intro u hu; simp only [List.mem_cons, List.not_mem_nil, or_false] at hu
    rcases hu with rfl | rfl | rfl <;> assumption
  refine o_special H23 [(.ref b5)] [(.ref b1)] (rm2_3 l Z a0 hw b1 b5 I hst cs fm x0 x1 x2 h23 n0 H23.le f25 z1 f26 f27 AX hcx (WW.ext (o_kext k24))) rfl (w10 hw) (w11 hw) (w9 hw) (w12 hw) (by decide) (lenOf pd2 rfl) rfl rfl (by decide) (Nat.le_of_ble_eq_true rfl) (by decide) (by decide) d1_95 rfl (fun _ q => q) hst ?_
  intro T29 v29 h29 H29 q29
  obtain ⟨rfl, K29, T_29⟩ := q29
  have k30 := k24.trans K29 (allS (Or.inr y1) all0)
  have f31 := AX.keep K29 (ninS (Ne.symm ne5_b1) nin0)
  show oG p e below s n0 _ _ _ _ (T29.setTop (mkF m 98 #[.val (.int (3 : Int32)), .val (.ref p2)] [(.ref b1)]))
  exact o_areturn H29 rfl rfl rfl rfl d1_98 hst (fun _ q => q) (by decide) (by decide) ⟨_, rfl, k30, T_29⟩
set_option maxRecDepth 65536 in
set_option maxHeartbeats 40000000 in
theorem rm1_4 (l : Launch) (Z : State) (a0 : Array Value) (hw : ∀ d ∈ tables_1, d.before a0 Z = true) (p2 : Addr) (I : Vm → Prop) (hst : oSt I) (cs : Int32) (fm : Value) (x0 x1 x2 x3 : Int32) (h0 : Heap) (n0 : Nat) (Z0 : n0 ≤ h0.size) (AV1 : oA .char Z h0 p2 [(.int x0), (.int x1), (.int x2), (.int x3)]) (hx0 : own_chr x0) (hx1 : own_chr x1) (hx2 : own_chr x2) (hx3 : own_chr x3) (WW : own_W Z h0 cs fm) :
    oC l Z n0 I (fun _ => I) (⟨"com/example/encase/encase/codec/LabelsLowerAsciiPinLaw", "make", "(I[C)Ljava/lang/String;"⟩ : MethodName) method_3_code 2 (some (.object "java/lang/String")) ({ frames := 6, cells := 4, slots := 20, locals := 100 } : Room) 4 20 #[(.int (4 : Int32)), (.ref p2)] h0 (fun v h => ∃ r, v = some (.ref r) ∧ Keep h0 h [] ∧ own_T Z h r ([x0, x1, x2, x3] : List Int32)) := by
  refine oC.of (b := false) (L := #[.val (.int (4 : Int32)), .val (.ref p2)]) pn1 Z0 (fun q => (nomatch q)) (fun m => by first | (simp [entryFrame, mkF, argsToLocals, Value.category]; done) | rfl) ?_
  intro p e s m below meth c T H
  refine o_iloadN H rfl d1_0 rfl ?_
  refine o_if_t H d1_1 (by decide) (pt := 15) (by decide) (by decide) ?_
  refine o_iloadN H rfl d1_15 rfl ?_
  refine o_iconst H (1 : Int32) rfl d1_16 rfl ?_
  refine o_icmp_t H d1_17 (by decide) (pt := 37) (by decide) (by decide) ?_
  refine o_iloadN H rfl d1_37 rfl ?_
  refine o_iconst H (2 : Int32) rfl d1_38 rfl ?_
  refine o_icmp_t H d1_39 (by decide) (pt := 65) (by decide) (by decide) ?_
  refine o_iloadN H rfl d1_65 rfl ?_
  refine o_iconst H (3 : Int32) rfl d1_66 rfl ?_
  refine o_icmp_t H d1_67 (by decide) (pt := 99) (by decide) (by decide) ?_
  refine o_new H (w7 hw) (w8 hw) (w9 hw) d1_99 rfl (by decide) (by decide) ?_
  intro T1 h1 b1 g1 H1 E1 A1 D1
  have ne1_p2 : p2 ≠ b1 := by rw [g1]; exact Nat.ne_of_lt (AV1).lt
  have z1 : n0 ≤ b1 := by rw [g1]; exact H.le
  have y1 : h0.size ≤ b1 := by rw [g1]; exact (Keep.refl h0 []).1
  have k2 := (Keep.refl h0 []).ext E1
  have f3 : Fld Z h1 b1 "java/lang/String" "value" "[B" .null := D1 (Or.inr (w22 hw)) (ty := (.array .byte)) (by decide)
  have f4 : Fld Z h1 b1 "java/lang/String" "coder" "B" (.int (0 : Int32)) := D1 (Or.inr (w23 hw)) (ty := .byte) (by decide)
  refine o_dup H1 rfl d1_102 rfl ?_
  refine o_iconst H1 (4 : Int32) rfl d1_103 rfl ?_
  refine o_newarr (aty := .char) H1 4 4 (w1 hw) (by decide) (by decide) (by decide) d1_104 rfl (by decide) (by decide) ?_
  intro T5 h5 b5 g5 H5 E5 A5
  have ne5_p2 : p2 ≠ b5 := by rw [g5]; exact Nat.ne_of_lt ((AV1.ext (o_kext k2))).lt
  have ne5_b1 : b1 ≠ b5 := by rw [g5]; exact Nat.ne_of_lt (A1).lt
  have z5 : n0 ≤ b5 := by rw [g5]; exact H1.le
  have y5 : h0.size ≤ b5 := by rw [g5]; exact k2.1
  have k6 := k2.ext E5
  have f7 := A1.ext E5
  have f8 := f3.ext E5
  have f9 := f4.ext E5
  have f10 : oA .char Z h5 b5 [(.int 0), (.int 0), (.int 0), (.int 0)] := A5
  refine o_dup H5 rfl d1_106 rfl ?_
  refine o_iconst H5 (0 : Int32) rfl d1_107 rfl ?_
  refine o_aloadN H5 rfl rfl d1_108 rfl ?_
  refine o_iconst H5 (0 : Int32) rfl d1_109 rfl ?_
  refine o_caload H5 0 (.int x0) (AV1.ext (o_kext k6)) (by decide) rfl d1_110 rfl ?_
  refine o_castore H5 0 f10 (by decide) (Nat.le_of_ble_eq_true rfl) z5 d1_111 rfl ?_
  intro T11 h11 H11 W11 A11
  have k12 := k6.wr W11 (Or.inr y5)
  have f13 := f7.wr W11
  have f14 := f8.other W11 (Or.inl ne5_b1)
  have f15 := f9.other W11 (Or.inl ne5_b1)
  have f16 : oA .char Z h11 b5 [(.int (nar .char x0)), (.int 0), (.int 0), (.int 0)] := A11
  refine o_dup H11 rfl d1_112 rfl ?_
  refine o_iconst H11 (1 : Int32) rfl d1_113 rfl ?_
  refine o_aloadN H11 rfl rfl d1_114 rfl ?_
  refine o_iconst H11 (1 : Int32) rfl d1_115 rfl ?_
  refine o_caload H11 1 (.int x1) (AV1.ext (o_kext k12)) (by decide) rfl d1_116 rfl ?_
  refine o_castore H11 1 f16 (by decide) (Nat.le_of_ble_eq_true rfl) z5 d1_117 rfl ?_
  intro T17 h17 H17 W17 A17
  have k18 := k12.wr W17 (Or.inr y5)
  have f19 := f13.wr W17
  have f20 := f14.other W17 (Or.inl ne5_b1)
  have f21 := f15.other W17 (Or.inl ne5_b1)
  have f22 : oA .char Z h17 b5 [(.int (nar .char x0)), (.int (nar .char x1)), (.int 0), (.int 0)] := A17
  refine o_dup H17 rfl d1_118 rfl ?_
  refine o_iconst H17 (2 : Int32) rfl d1_119 rfl ?_
  refine o_aloadN H17 rfl rfl d1_120 rfl ?_
  refine o_iconst H17 (2 : Int32) rfl d1_121 rfl ?_
  refine o_caload H17 2 (.int x2) (AV1.ext (o_kext k18)) (by decide) rfl d1_122 rfl ?_
  refine o_castore H17 2 f22 (by decide) (Nat.le_of_ble_eq_true rfl) z5 d1_123 rfl ?_
  intro T23 h23 H23 W23 A23
  have k24 := k18.wr W23 (Or.inr y5)
  have f25 := f19.wr W23
  have f26 := f20.other W23 (Or.inl ne5_b1)
  have f27 := f21.other W23 (Or.inl ne5_b1)
  have f28 : oA .char Z h23 b5 [(.int (nar .char x0)), (.int (nar .char x1)), (.int (nar .char x2)), (.int 0)] := A23
  refine o_dup H23 rfl d1_124 rfl ?_
  refine o_iconst H23 (3 : Int32) rfl d1_125 rfl ?_
  refine o_aloadN H23 rfl rfl d1_126 rfl ?_
  refine o_iconst H23 (3 : Int32) rfl d1_127 rfl ?_
  refine o_caload H23 3 (.int x3) (AV1.ext (o_kext k24)) (by decide) rfl d1_128 rfl ?_
  refine o_castore H23 3 f28 (by decide) (Nat.le_of_ble_eq_true rfl) z5 d1_129 rfl ?_
  intro T29 h29 H29 W29 A29
  have k30 := k24.wr W29 (Or.inr y5)
  have f31 := f25.wr W29
  have f32 := f26.other W29 (Or.inl ne5_b1)
  have f33 := f27.other W29 (Or.inl ne5_b1)
  have f34 : oA .char Z h29 b5 [(.int (nar .char x0)), (.int (nar .char x1)), (.int (nar .char x2)), (.int (nar .char x3))] := A29
  have AX : oA .char Z h29 b5 [(.int x0), (.int x1), (.int x2), (.int x3)] := by
    have q := f34
    rw [own_narc hx0, own_narc hx1, own_narc hx2, own_narc hx3] at q
    exact q
  have hcx : ∀ u ∈ ([x0, x1, x2, x3] : List Int32), own_chr u := by
    intro u hu; simp only [List.mem_cons, List.not_mem_nil, or_false] at hu
    rcases hu with rfl | rfl | rfl | rfl <;> assumption
  refine o_special H29 [(.ref b5)] [(.ref b1)] (rm2_4 l Z a0 hw b1 b5 I hst cs fm x0 x1 x2 x3 h29 n0 H29.le f31 z1 f32 f33 AX hcx (WW.ext (o_kext k30))) rfl (w10 hw) (w11 hw) (w9 hw) (w12 hw) (by decide) (lenOf pd2 rfl) rfl rfl (by decide) (Nat.le_of_ble_eq_true rfl) (by decide) (by decide) d1_130 rfl (fun _ q => q) hst ?_
  intro T35 v35 h35 H35 q35
  obtain ⟨rfl, K35, T_35⟩ := q35
  have k36 := k30.trans K35 (allS (Or.inr y1) all0)
  have f37 := AX.keep K35 (ninS (Ne.symm ne5_b1) nin0)
  show oG p e below s n0 _ _ _ _ (T35.setTop (mkF m 133 #[.val (.int (4 : Int32)), .val (.ref p2)] [(.ref b1)]))
  exact o_areturn H35 rfl rfl rfl rfl d1_133 hst (fun _ q => q) (by decide) (by decide) ⟨_, rfl, k36, T_35⟩
theorem d5_0 : decode prog_20_method_12_code 0 = .ok (.aload_n 0, 1) := by decide +kernel
theorem d5_1 : decode prog_20_method_12_code 1 = .ok (.invokevirtual 62, 3) := by decide +kernel
theorem d5_4 : decode prog_20_method_12_code 4 = .ok (.iload_n 1, 1) := by decide +kernel
theorem d5_5 : decode prog_20_method_12_code 5 = .ok (.isub, 1) := by decide +kernel
theorem d5_6 : decode prog_20_method_12_code 6 = .ok (.newarray .char, 2) := by decide +kernel
theorem d5_8 : decode prog_20_method_12_code 8 = .ok (.astore_n 2, 1) := by decide +kernel
theorem d5_9 : decode prog_20_method_12_code 9 = .ok (.iconst 0, 1) := by decide +kernel
theorem d5_10 : decode prog_20_method_12_code 10 = .ok (.istore_n 3, 1) := by decide +kernel
theorem d5_11 : decode prog_20_method_12_code 11 = .ok (.iload_n 3, 1) := by decide +kernel
theorem d5_12 : decode prog_20_method_12_code 12 = .ok (.aload_n 2, 1) := by decide +kernel
theorem d5_13 : decode prog_20_method_12_code 13 = .ok (.arraylength, 1) := by decide +kernel
theorem d5_14 : decode prog_20_method_12_code 14 = .ok (.if_icmp .ge 22, 3) := by decide +kernel
theorem d5_17 : decode prog_20_method_12_code 17 = .ok (.aload_n 2, 1) := by decide +kernel
theorem d5_18 : decode prog_20_method_12_code 18 = .ok (.iload_n 3, 1) := by decide +kernel
theorem d5_19 : decode prog_20_method_12_code 19 = .ok (.aload_n 0, 1) := by decide +kernel
theorem d5_20 : decode prog_20_method_12_code 20 = .ok (.iload_n 1, 1) := by decide +kernel
theorem d5_21 : decode prog_20_method_12_code 21 = .ok (.iload_n 3, 1) := by decide +kernel
theorem d5_22 : decode prog_20_method_12_code 22 = .ok (.iadd, 1) := by decide +kernel
theorem d5_23 : decode prog_20_method_12_code 23 = .ok (.invokevirtual 100, 3) := by decide +kernel
theorem d5_26 : decode prog_20_method_12_code 26 = .ok (.invokestatic 101, 3) := by decide +kernel
theorem d5_29 : decode prog_20_method_12_code 29 = .ok (.castore, 1) := by decide +kernel
theorem d5_30 : decode prog_20_method_12_code 30 = .ok (.iinc 3 1, 3) := by decide +kernel
theorem d5_33 : decode prog_20_method_12_code 33 = .ok (.goto (-22), 3) := by decide +kernel
theorem d5_36 : decode prog_20_method_12_code 36 = .ok (.new 63, 3) := by decide +kernel
theorem d5_39 : decode prog_20_method_12_code 39 = .ok (.dup, 1) := by decide +kernel
theorem d5_40 : decode prog_20_method_12_code 40 = .ok (.aload_n 2, 1) := by decide +kernel
theorem d5_41 : decode prog_20_method_12_code 41 = .ok (.invokespecial 105, 3) := by decide +kernel
theorem d5_44 : decode prog_20_method_12_code 44 = .ok (.areturn, 1) := by decide +kernel
theorem pn5 : plainFor (⟨"com/example/encase/encase/codec/Labels", "lowerAscii", "(Ljava/lang/String;I)Ljava/lang/String;"⟩ : MethodName) = true := plainFor_of_name (by first | (simp [plainName, overriddenIn]; done) | decide +kernel)
theorem pd5 : parseMethodDescriptor "(Ljava/lang/String;I)Ljava/lang/String;" = some ⟨[(.object "java/lang/String"), .int], some (.object "java/lang/String")⟩ := by decide +kernel
set_option maxRecDepth 65536 in
set_option maxHeartbeats 40000000 in
theorem rm5_0 (l : Launch) (Z : State) (a0 : Array Value) (hw : ∀ d ∈ tables_1, d.before a0 Z = true) (a1 : Addr) (p1 : Int32) (I : Vm → Prop) (hst : oSt I) (us : List Int32) (j : Nat) (cs : Int32) (fm : Value) (h0 : Heap) (n0 : Nat) (Z0 : n0 ≤ h0.size) (WW : own_W Z h0 cs fm) (TS : own_T Z h0 a1 us) (hu : us.length ≤ 4) (hm : us.length.toInt32 - p1 = (0 : Int32)) (hj : p1.toInt = (j : Int)) (h4 : j ≤ 4)  (hh : Jvm.Lit.constHeld Z "java/lang/String" 7) (hcw : Jvm.Lit.compactW.before a0 Z = true) (hpre : own_pre Z I h0) :
    oC l Z n0 I (fun h vm => ∃ ab : Addr × Addr, own_LF Z h ab.1 ab.2 ∧ Lit (Z.setVm vm) "java/lang/String" 7 ab.1) (⟨"com/example/encase/encase/codec/Labels", "lowerAscii", "(Ljava/lang/String;I)Ljava/lang/String;"⟩ : MethodName) prog_20_method_12_code 4 (some (.object "java/lang/String")) ({ frames := 6, cells := 4, slots := 20, locals := 100 } : Room) 4 20 #[(.ref a1), (.int p1)] h0 (fun v h => ∃ r, v = some (.ref r) ∧ Keep h0 h [] ∧ own_T Z h r ([] : List Int32)) := by
  refine oC.of (b := false) (L := #[.val (.ref a1), .val (.int p1), .unset, .unset]) pn5 Z0 (fun q => (nomatch q)) (fun m => by first | (simp [entryFrame, mkF, argsToLocals, Value.category]; done) | rfl) ?_
  intro p e s m below meth c T H
  refine o_aloadN H rfl rfl d5_0 rfl ?_
  refine o_virtual H [] [] ((rmLen l Z a0 hw a1 I hst us cs fm h0 n0 H.le WW TS hu)) (TS).exa (w32 hw) (w33 hw) (o_nf (w35 hw)) (w35 hw) (w34 hw) (w9 hw) (w36 hw) (by decide) (lenOf pd6 rfl) rfl rfl (by decide) (Nat.le_of_ble_eq_true rfl) (by decide) (by decide) d5_1 rfl (fun _ q => q) hst ?_
  intro T1 v1 h1 H1 q1
  obtain ⟨rfl, rfl⟩ := q1
  show oG p e below s n0 _ _ _ _ (T1.setTop (mkF m 4 #[.val (.ref a1), .val (.int p1), .unset, .unset] [(.int (us.length.toInt32))]))
  refine o_iloadN H1 rfl d5_4 rfl ?_
  refine o_isub H1 d5_5 rfl ?_
  rw [show (us.length.toInt32 - p1) = (0 : Int32) from hm]
  refine o_newarr (aty := .char) H1 0 0 (w1 hw) (by decide) (by decide) (by decide) d5_6 rfl (by decide) (by decide) ?_
  intro T2 h2 b2 g2 H2 E2 A2
  have z2 : n0 ≤ b2 := by rw [g2]; exact H1.le
  have y2 : h0.size ≤ b2 := by rw [g2]; exact (Keep.refl h0 []).1
  have k3 := (Keep.refl h0 []).ext E2
  have f4 : oA .char Z h2 b2 [] := A2
  refine o_astoreN H2 (L' := #[.val (.ref a1), .val (.int p1), .val (.ref b2), .unset]) rfl rfl d5_8 rfl ?_
  refine o_iconst H2 (0 : Int32) rfl d5_9 rfl ?_
  refine o_istoreN H2 (L' := #[.val (.ref a1), .val (.int p1), .val (.ref b2), .val (.int (0 : Int32))]) rfl d5_10 rfl ?_
  refine o_iloadN H2 rfl d5_11 rfl ?_
  refine o_aloadN H2 rfl rfl d5_12 rfl ?_
  refine o_arraylength H2 (0 : Int32) f4 rfl d5_13 rfl ?_
  refine o_icmp_t H2 d5_14 (by decide) (pt := 36) (by decide) (by decide) ?_
  refine o_new H2 (w43 hw) (w8 hw) (w9 hw) d5_36 rfl (by decide) (by decide) ?_
  intro T5 h5 b5 g5 H5 E5 A5 D5
  have ne5_b2 : b2 ≠ b5 := by rw [g5]; exact Nat.ne_of_lt (f4).lt
  have z5 : n0 ≤ b5 := by rw [g5]; exact H2.le
  have y5 : h0.size ≤ b5 := by rw [g5]; exact k3.1
  have k6 := k3.ext E5
  have f7 := f4.ext E5
  have f8 : Fld Z h5 b5 "java/lang/String" "value" "[B" .null := D5 (Or.inr (w22 hw)) (ty := (.array .byte)) (by decide)
  have f9 : Fld Z h5 b5 "java/lang/String" "coder" "B" (.int (0 : Int32)) := D5 (Or.inr (w23 hw)) (ty := .byte) (by decide)
  refine o_dup H5 rfl d5_39 rfl ?_
  refine o_aloadN H5 rfl rfl d5_40 rfl ?_
  refine o_special H5 [(.ref b2)] [(.ref b5)] (rm2_0 l Z a0 hw b5 b2 I hst  h5 n0 H5.le A5 z5 f8 f9 f7 hh hcw (hpre.ext (o_kext k6))) rfl (w44 hw) (w11 hw) (w9 hw) (w12 hw) (by decide) (lenOf pd2 rfl) rfl rfl (by decide) (Nat.le_of_ble_eq_true rfl) (by decide) (by decide) d5_41 rfl (fun _ q => q) hst ?_
  intro T10 v10 h10 H10 q10
  obtain ⟨rfl, K10, T_10⟩ := q10
  have k11 := k6.trans K10 (allS (Or.inr y5) all0)
  have f12 := f7.keep K10 (ninS ne5_b2 nin0)
  have f13 := ((TS.ext (o_kext k6))).exa.keep K10
  show oG p e below s n0 _ _ _ _ (T10.setTop (mkF m 44 #[.val (.ref a1), .val (.int p1), .val (.ref b2), .val (.int (0 : Int32))] [(.ref b5)]))
  exact o_areturn H10 rfl rfl rfl rfl d5_44 own_lj (fun _ q => q) (by decide) (by decide) ⟨_, rfl, k11, T_10⟩
set_option maxRecDepth 65536 in
set_option maxHeartbeats 40000000 in
theorem rm5_1 (l : Launch) (Z : State) (a0 : Array Value) (hw : ∀ d ∈ tables_1, d.before a0 Z = true) (a1 : Addr) (p1 : Int32) (I : Vm → Prop) (hst : oSt I) (us : List Int32) (j : Nat) (cs : Int32) (fm : Value) (x0 : Int32) (h0 : Heap) (n0 : Nat) (Z0 : n0 ≤ h0.size) (WW : own_W Z h0 cs fm) (TS : own_T Z h0 a1 us) (hu : us.length ≤ 4) (hm : us.length.toInt32 - p1 = (1 : Int32)) (hj : p1.toInt = (j : Int)) (h4 : j ≤ 4) (hv0 : us[j + 0]? = some x0) (hx0 : own_chr x0) :
    oC l Z n0 I (fun _ => I) (⟨"com/example/encase/encase/codec/Labels", "lowerAscii", "(Ljava/lang/String;I)Ljava/lang/String;"⟩ : MethodName) prog_20_method_12_code 4 (some (.object "java/lang/String")) ({ frames := 6, cells := 4, slots := 20, locals := 100 } : Room) 4 20 #[(.ref a1), (.int p1)] h0 (fun v h => ∃ r, v = some (.ref r) ∧ Keep h0 h [] ∧ own_T Z h r ([own_low x0] : List Int32)) := by
  refine oC.of (b := false) (L := #[.val (.ref a1), .val (.int p1), .unset, .unset]) pn5 Z0 (fun q => (nomatch q)) (fun m => by first | (simp [entryFrame, mkF, argsToLocals, Value.category]; done) | rfl) ?_
  intro p e s m below meth c T H
  refine o_aloadN H rfl rfl d5_0 rfl ?_
  refine o_virtual H [] [] ((rmLen l Z a0 hw a1 I hst us cs fm h0 n0 H.le WW TS hu)) (TS).exa (w32 hw) (w33 hw) (o_nf (w35 hw)) (w35 hw) (w34 hw) (w9 hw) (w36 hw) (by decide) (lenOf pd6 rfl) rfl rfl (by decide) (Nat.le_of_ble_eq_true rfl) (by decide) (by decide) d5_1 rfl (fun _ q => q) hst ?_
  intro T1 v1 h1 H1 q1
  obtain ⟨rfl, rfl⟩ := q1
  show oG p e below s n0 _ _ _ _ (T1.setTop (mkF m 4 #[.val (.ref a1), .val (.int p1), .unset, .unset] [(.int (us.length.toInt32))]))
  refine o_iloadN H1 rfl d5_4 rfl ?_
  refine o_isub H1 d5_5 rfl ?_
  rw [show (us.length.toInt32 - p1) = (1 : Int32) from hm]
  refine o_newarr (aty := .char) H1 1 1 (w1 hw) (by decide) (by decide) (by decide) d5_6 rfl (by decide) (by decide) ?_
  intro T2 h2 b2 g2 H2 E2 A2
  have z2 : n0 ≤ b2 := by rw [g2]; exact H1.le
  have y2 : h0.size ≤ b2 := by rw [g2]; exact (Keep.refl h0 []).1
  have k3 := (Keep.refl h0 []).ext E2
  have f4 : oA .char Z h2 b2 [(.int 0)] := A2
  refine o_astoreN H2 (L' := #[.val (.ref a1), .val (.int p1), .val (.ref b2), .unset]) rfl rfl d5_8 rfl ?_
  refine o_iconst H2 (0 : Int32) rfl d5_9 rfl ?_
  refine o_istoreN H2 (L' := #[.val (.ref a1), .val (.int p1), .val (.ref b2), .val (.int (0 : Int32))]) rfl d5_10 rfl ?_
  refine o_iloadN H2 rfl d5_11 rfl ?_
  refine o_aloadN H2 rfl rfl d5_12 rfl ?_
  refine o_arraylength H2 (1 : Int32) f4 rfl d5_13 rfl ?_
  refine o_icmp_f H2 d5_14 (by decide) rfl ?_
  refine o_aloadN H2 rfl rfl d5_17 rfl ?_
  refine o_iloadN H2 rfl d5_18 rfl ?_
  refine o_aloadN H2 rfl rfl d5_19 rfl ?_
  refine o_iloadN H2 rfl d5_20 rfl ?_
  refine o_iloadN H2 rfl d5_21 rfl ?_
  refine o_iadd H2 d5_22 rfl ?_
  refine o_virtual H2 [(.int (p1 + (0 : Int32)))] [(.int (0 : Int32)), (.ref b2)] (rmCh l Z a0 hw a1 (p1 + (0 : Int32)) I hst us (j + 0) x0 cs fm h2 n0 H2.le (WW.ext (o_kext k3)) (TS.ext (o_kext k3)) hu (own_pk hj h4 (by decide) (by decide)) hv0 hx0) ((TS.ext (o_kext k3))).exa (w59 hw) (w60 hw) (o_nf (w62 hw)) (w62 hw) (w61 hw) (w9 hw) (w63 hw) (by decide) (lenOf pd12 rfl) rfl rfl (by decide) (Nat.le_of_ble_eq_true rfl) (by decide) (by decide) d5_23 rfl (fun _ q => q) hst ?_
  intro T5 v5 h5 H5 q5
  obtain ⟨rfl, rfl⟩ := q5
  show oG p e below s n0 _ _ _ _ (T5.setTop (mkF m 26 #[.val (.ref a1), .val (.int p1), .val (.ref b2), .val (.int (0 : Int32))] [(.int x0), (.int (0 : Int32)), (.ref b2)]))
  refine o_static H5 [(.int x0)] [(.int (0 : Int32)), (.ref b2)] (rm17 l Z a0 hw x0 I hst  h2 n0 H5.le hx0) (w81 hw) (w82 hw) (w30 hw) (w83 hw) (by decide) (lenOf pd17 rfl) rfl rfl (by decide) (Nat.le_of_ble_eq_true rfl) (by decide) (by decide) d5_26 rfl (fun _ q => q) hst ?_
  intro T6 v6 h6 H6 q6
  obtain ⟨rfl, rfl⟩ := q6
  show oG p e below s n0 _ _ _ _ (T6.setTop (mkF m 29 #[.val (.ref a1), .val (.int p1), .val (.ref b2), .val (.int (0 : Int32))] [(.int (own_low x0)), (.int (0 : Int32)), (.ref b2)]))
  refine o_castore H6 0 f4 (by decide) (Nat.le_of_ble_eq_true rfl) z2 d5_29 rfl ?_
  intro T7 h7 H7 W7 A7
  have k8 := k3.wr W7 (Or.inr y2)
  have f9 := ((TS.ext (o_kext k3))).exa.wr W7
  have f10 : oA .char Z h7 b2 [(.int (nar .char (own_low x0)))] := A7
  refine o_iinc H7 (1 : Int32) (1 : Int32) rfl (by decide) rfl (L' := #[.val (.ref a1), .val (.int p1), .val (.ref b2), .val (.int (1 : Int32))]) rfl d5_30 rfl ?_
  refine o_goto H7 d5_33 (pt := 11) (by decide) (by decide) ?_
  refine o_iloadN H7 rfl d5_11 rfl ?_
  refine o_aloadN H7 rfl rfl d5_12 rfl ?_
  refine o_arraylength H7 (1 : Int32) f10 rfl d5_13 rfl ?_
  refine o_icmp_t H7 d5_14 (by decide) (pt := 36) (by decide) (by decide) ?_
  refine o_new H7 (w43 hw) (w8 hw) (w9 hw) d5_36 rfl (by decide) (by decide) ?_
  intro T11 h11 b11 g11 H11 E11 A11 D11
  have ne11_b2 : b2 ≠ b11 := by rw [g11]; exact Nat.ne_of_lt (f10).lt
  have z11 : n0 ≤ b11 := by rw [g11]; exact H7.le
  have y11 : h0.size ≤ b11 := by rw [g11]; exact k8.1
  have k12 := k8.ext E11
  have f13 := f10.ext E11
  have f14 : Fld Z h11 b11 "java/lang/String" "value" "[B" .null := D11 (Or.inr (w22 hw)) (ty := (.array .byte)) (by decide)
  have f15 : Fld Z h11 b11 "java/lang/String" "coder" "B" (.int (0 : Int32)) := D11 (Or.inr (w23 hw)) (ty := .byte) (by decide)
  refine o_dup H11 rfl d5_39 rfl ?_
  refine o_aloadN H11 rfl rfl d5_40 rfl ?_
  have AX : oA .char Z h11 b2 [(.int (own_low x0))] := by
    have q := f13
    rw [own_narc (own_low_c hx0)] at q
    exact q
  have hcx : ∀ u ∈ ([(own_low x0)] : List Int32), own_chr u := by
    intro u hu; simp only [List.mem_cons, List.not_mem_nil, or_false] at hu
    rcases hu with rfl
    · exact own_low_c hx0
  refine o_special H11 [(.ref b2)] [(.ref b11)] (rm2_1 l Z a0 hw b11 b2 I hst cs fm (own_low x0) h11 n0 H11.le A11 z11 f14 f15 AX hcx (WW.ext (o_kext k12))) rfl (w44 hw) (w11 hw) (w9 hw) (w12 hw) (by decide) (lenOf pd2 rfl) rfl rfl (by decide) (Nat.le_of_ble_eq_true rfl) (by decide) (by decide) d5_41 rfl (fun _ q => q) hst ?_
  intro T16 v16 h16 H16 q16
  obtain ⟨rfl, K16, T_16⟩ := q16
  have k17 := k12.trans K16 (allS (Or.inr y11) all0)
  have f18 := AX.keep K16 (ninS ne11_b2 nin0)
  have f19 := ((TS.ext (o_kext k12))).exa.keep K16
  show oG p e below s n0 _ _ _ _ (T16.setTop (mkF m 44 #[.val (.ref a1), .val (.int p1), .val (.ref b2), .val (.int (1 : Int32))] [(.ref b11)]))
  exact o_areturn H16 rfl rfl rfl rfl d5_44 hst (fun _ q => q) (by decide) (by decide) ⟨_, rfl, k17, T_16⟩
set_option maxRecDepth 65536 in
set_option maxHeartbeats 40000000 in
theorem rm5_2 (l : Launch) (Z : State) (a0 : Array Value) (hw : ∀ d ∈ tables_1, d.before a0 Z = true) (a1 : Addr) (p1 : Int32) (I : Vm → Prop) (hst : oSt I) (us : List Int32) (j : Nat) (cs : Int32) (fm : Value) (x0 x1 : Int32) (h0 : Heap) (n0 : Nat) (Z0 : n0 ≤ h0.size) (WW : own_W Z h0 cs fm) (TS : own_T Z h0 a1 us) (hu : us.length ≤ 4) (hm : us.length.toInt32 - p1 = (2 : Int32)) (hj : p1.toInt = (j : Int)) (h4 : j ≤ 4) (hv0 : us[j + 0]? = some x0) (hx0 : own_chr x0) (hv1 : us[j + 1]? = some x1) (hx1 : own_chr x1) :
    oC l Z n0 I (fun _ => I) (⟨"com/example/encase/encase/codec/Labels", "lowerAscii", "(Ljava/lang/String;I)Ljava/lang/String;"⟩ : MethodName) prog_20_method_12_code 4 (some (.object "java/lang/String")) ({ frames := 6, cells := 4, slots := 20, locals := 100 } : Room) 4 20 #[(.ref a1), (.int p1)] h0 (fun v h => ∃ r, v = some (.ref r) ∧ Keep h0 h [] ∧ own_T Z h r ([own_low x0, own_low x1] : List Int32)) := by
  refine oC.of (b := false) (L := #[.val (.ref a1), .val (.int p1), .unset, .unset]) pn5 Z0 (fun q => (nomatch q)) (fun m => by first | (simp [entryFrame, mkF, argsToLocals, Value.category]; done) | rfl) ?_
  intro p e s m below meth c T H
  refine o_aloadN H rfl rfl d5_0 rfl ?_
  refine o_virtual H [] [] ((rmLen l Z a0 hw a1 I hst us cs fm h0 n0 H.le WW TS hu)) (TS).exa (w32 hw) (w33 hw) (o_nf (w35 hw)) (w35 hw) (w34 hw) (w9 hw) (w36 hw) (by decide) (lenOf pd6 rfl) rfl rfl (by decide) (Nat.le_of_ble_eq_true rfl) (by decide) (by decide) d5_1 rfl (fun _ q => q) hst ?_
  intro T1 v1 h1 H1 q1
  obtain ⟨rfl, rfl⟩ := q1
  show oG p e below s n0 _ _ _ _ (T1.setTop (mkF m 4 #[.val (.ref a1), .val (.int p1), .unset, .unset] [(.int (us.length.toInt32))]))
  refine o_iloadN H1 rfl d5_4 rfl ?_
  refine o_isub H1 d5_5 rfl ?_
  rw [show (us.length.toInt32 - p1) = (2 : Int32) from hm]
  refine o_newarr (aty := .char) H1 2 2 (w1 hw) (by decide) (by decide) (by decide) d5_6 rfl (by decide) (by decide) ?_
  intro T2 h2 b2 g2 H2 E2 A2
  have z2 : n0 ≤ b2 := by rw [g2]; exact H1.le
  have y2 : h0.size ≤ b2 := by rw [g2]; exact (Keep.refl h0 []).1
  have k3 := (Keep.refl h0 []).ext E2
  have f4 : oA .char Z h2 b2 [(.int 0), (.int 0)] := A2
  refine o_astoreN H2 (L' := #[.val (.ref a1), .val (.int p1), .val (.ref b2), .unset]) rfl rfl d5_8 rfl ?_
  refine o_iconst H2 (0 : Int32) rfl d5_9 rfl ?_
  refine o_istoreN H2 (L' := #[.val (.ref a1), .val (.int p1), .val (.ref b2), .val (.int (0 : Int32))]) rfl d5_10 rfl ?_
  refine o_iloadN H2 rfl d5_11 rfl ?_
  refine o_aloadN H2 rfl rfl d5_12 rfl ?_
  refine o_arraylength H2 (2 : Int32) f4 rfl d5_13 rfl ?_
  refine o_icmp_f H2 d5_14 (by decide) rfl ?_
  refine o_aloadN H2 rfl rfl d5_17 rfl ?_
  refine o_iloadN H2 rfl d5_18 rfl ?_
  refine o_aloadN H2 rfl rfl d5_19 rfl ?_
  refine o_iloadN H2 rfl d5_20 rfl ?_
  refine o_iloadN H2 rfl d5_21 rfl ?_
  refine o_iadd H2 d5_22 rfl ?_
  refine o_virtual H2 [(.int (p1 + (0 : Int32)))] [(.int (0 : Int32)), (.ref b2)] (rmCh l Z a0 hw a1 (p1 + (0 : Int32)) I hst us (j + 0) x0 cs fm h2 n0 H2.le (WW.ext (o_kext k3)) (TS.ext (o_kext k3)) hu (own_pk hj h4 (by decide) (by decide)) hv0 hx0) ((TS.ext (o_kext k3))).exa (w59 hw) (w60 hw) (o_nf (w62 hw)) (w62 hw) (w61 hw) (w9 hw) (w63 hw) (by decide) (lenOf pd12 rfl) rfl rfl (by decide) (Nat.le_of_ble_eq_true rfl) (by decide) (by decide) d5_23 rfl (fun _ q => q) hst ?_
  intro T5 v5 h5 H5 q5
  obtain ⟨rfl, rfl⟩ := q5
  show oG p e below s n0 _ _ _ _ (T5.setTop (mkF m 26 #[.val (.ref a1), .val (.int p1), .val (.ref b2), .val (.int (0 : Int32))] [(.int x0), (.int (0 : Int32)), (.ref b2)]))
  refine o_static H5 [(.int x0)] [(.int (0 : Int32)), (.ref b2)] (rm17 l Z a0 hw x0 I hst  h2 n0 H5.le hx0) (w81 hw) (w82 hw) (w30 hw) (w83 hw) (by decide) (lenOf pd17 rfl) rfl rfl (by decide) (Nat.le_of_ble_eq_true rfl) (by decide) (by decide) d5_26 rfl (fun _ q => q) hst ?_
  intro T6 v6 h6 H6 q6
  obtain ⟨rfl, rfl⟩ := q6
  show oG p e below s n0 _ _ _ _ (T6.setTop (mkF m 29 #[.val (.ref a1), .val (.int p1), .val (.ref b2), .val (.int (0 : Int32))] [(.int (own_low x0)), (.int (0 : Int32)), (.ref b2)]))
  refine o_castore H6 0 f4 (by decide) (Nat.le_of_ble_eq_true rfl) z2 d5_29 rfl ?_
  intro T7 h7 H7 W7 A7
  have k8 := k3.wr W7 (Or.inr y2)
  have f9 := ((TS.ext (o_kext k3))).exa.wr W7
  have f10 : oA .char Z h7 b2 [(.int (nar .char (own_low x0))), (.int 0)] := A7
  refine o_iinc H7 (1 : Int32) (1 : Int32) rfl (by decide) rfl (L' := #[.val (.ref a1), .val (.int p1), .val (.ref b2), .val (.int (1 : Int32))]) rfl d5_30 rfl ?_
  refine o_goto H7 d5_33 (pt := 11) (by decide) (by decide) ?_
  refine o_iloadN H7 rfl d5_11 rfl ?_
  refine o_aloadN H7 rfl rfl d5_12 rfl ?_
  refine o_arraylength H7 (2 : Int32) f10 rfl d5_13 rfl ?_
  refine o_icmp_f H7 d5_14 (by decide) rfl ?_
  refine o_aloadN H7 rfl rfl d5_17 rfl ?_
  refine o_iloadN H7 rfl d5_18 rfl ?_
  refine o_aloadN H7 rfl rfl d5_19 rfl ?_
  refine o_iloadN H7 rfl d5_20 rfl ?_
  refine o_iloadN H7 rfl d5_21 rfl ?_
  refine o_iadd H7 d5_22 rfl ?_
  refine o_virtual H7 [(.int (p1 + (1 : Int32)))] [(.int (1 : Int32)), (.ref b2)] (rmCh l Z a0 hw a1 (p1 + (1 : Int32)) I hst us (j + 1) x1 cs fm h7 n0 H7.le (WW.ext (o_kext k8)) (TS.ext (o_kext k8)) hu (own_pk hj h4 (by decide) (by decide)) hv1 hx1) ((TS.ext (o_kext k8))).exa (w59 hw) (w60 hw) (o_nf (w62 hw)) (w62 hw) (w61 hw) (w9 hw) (w63 hw) (by decide) (lenOf pd12 rfl) rfl rfl (by decide) (Nat.le_of_ble_eq_true rfl) (by decide) (by decide) d5_23 rfl (fun _ q => q) hst ?_
  intro T11 v11 h11 H11 q11
  obtain ⟨rfl, rfl⟩ := q11
  show oG p e below s n0 _ _ _ _ (T11.setTop (mkF m 26 #[.val (.ref a1), .val (.int p1), .val (.ref b2), .val (.int (1 : Int32))] [(.int x1), (.int (1 : Int32)), (.ref b2)]))
  refine o_static H11 [(.int x1)] [(.int (1 : Int32)), (.ref b2)] (rm17 l Z a0 hw x1 I hst  h7 n0 H11.le hx1) (w81 hw) (w82 hw) (w30 hw) (w83 hw) (by decide) (lenOf pd17 rfl) rfl rfl (by decide) (Nat.le_of_ble_eq_true rfl) (by decide) (by decide) d5_26 rfl (fun _ q => q) hst ?_
  intro T12 v12 h12 H12 q12
  obtain ⟨rfl, rfl⟩ := q12
  show oG p e below s n0 _ _ _ _ (T12.setTop (mkF m 29 #[.val (.ref a1), .val (.int p1), .val (.ref b2), .val (.int (1 : Int32))] [(.int (own_low x1)), (.int (1 : Int32)), (.ref b2)]))
  refine o_castore H12 1 f10 (by decide) (Nat.le_of_ble_eq_true rfl) z2 d5_29 rfl ?_
  intro T13 h13 H13 W13 A13
  have k14 := k8.wr W13 (Or.inr y2)
  have f15 := ((TS.ext (o_kext k8))).exa.wr W13
  have f16 : oA .char Z h13 b2 [(.int (nar .char (own_low x0))), (.int (nar .char (own_low x1)))] := A13
  refine o_iinc H13 (1 : Int32) (2 : Int32) rfl (by decide) rfl (L' := #[.val (.ref a1), .val (.int p1), .val (.ref b2), .val (.int (2 : Int32))]) rfl d5_30 rfl ?_
  refine o_goto H13 d5_33 (pt := 11) (by decide) (by decide) ?_
  refine o_iloadN H13 rfl d5_11 rfl ?_
  refine o_aloadN H13 rfl rfl d5_12 rfl ?_
  refine o_arraylength H13 (2 : Int32) f16 rfl d5_13 rfl ?_
  refine o_icmp_t H13 d5_14 (by decide) (pt := 36) (by decide) (by decide) ?_
  refine o_new H13 (w43 hw) (w8 hw) (w9 hw) d5_36 rfl (by decide) (by decide) ?_
  intro T17 h17 b17 g17 H17 E17 A17 D17
  have ne17_b2 : b2 ≠ b17 := by rw [g17]; exact Nat.ne_of_lt (f16).lt
  have z17 : n0 ≤ b17 := by rw [g17]; exact H13.le
  have y17 : h0.size ≤ b17 := by rw [g17]; exact k14.1
  have k18 := k14.ext E17
  have f19 := f16.ext E17
  have f20 : Fld Z h17 b17 "java/lang/String" "value" "[B" .null := D17 (Or.inr (w22 hw)) (ty := (.array .byte)) (by decide)
  have f21 : Fld Z h17 b17 "java/lang/String" "coder" "B" (.int (0 : Int32)) := D17 (Or.inr (w23 hw)) (ty := .byte) (by decide)
  refine o_dup H17 rfl d5_39 rfl ?_
  refine o_aloadN H17 rfl rfl d5_40 rfl ?_
  have AX : oA .char Z h17 b2 [(.int (own_low x0)), (.int (own_low x1))] := by
    have q := f19
    rw [own_narc (own_low_c hx0), own_narc (own_low_c hx1)] at q
    exact q
  have hcx : ∀ u ∈ ([(own_low x0), (own_low x1)] : List Int32), own_chr u := by
    intro u hu; simp only [List.mem_cons, List.not_mem_nil, or_false] at hu
    rcases hu with rfl | rfl
    · exact own_low_c hx0
    · exact own_low_c hx1
  refine o_special H17 [(.ref b2)] [(.ref b17)] (rm2_2 l Z a0 hw b17 b2 I hst cs fm (own_low x0) (own_low x1) h17 n0 H17.le A17 z17 f20 f21 AX hcx (WW.ext (o_kext k18))) rfl (w44 hw) (w11 hw) (w9 hw) (w12 hw) (by decide) (lenOf pd2 rfl) rfl rfl (by decide) (Nat.le_of_ble_eq_true rfl) (by decide) (by decide) d5_41 rfl (fun _ q => q) hst ?_
  intro T22 v22 h22 H22 q22
  obtain ⟨rfl, K22, T_22⟩ := q22
  have k23 := k18.trans K22 (allS (Or.inr y17) all0)
  have f24 := AX.keep K22 (ninS ne17_b2 nin0)
  have f25 := ((TS.ext (o_kext k18))).exa.keep K22
  show oG p e below s n0 _ _ _ _ (T22.setTop (mkF m 44 #[.val (.ref a1), .val (.int p1), .val (.ref b2), .val (.int (2 : Int32))] [(.ref b17)]))
  exact o_areturn H22 rfl rfl rfl rfl d5_44 hst (fun _ q => q) (by decide) (by decide) ⟨_, rfl, k23, T_22⟩
set_option maxRecDepth 65536 in
set_option maxHeartbeats 40000000 in
theorem rm5_3 (l : Launch) (Z : State) (a0 : Array Value) (hw : ∀ d ∈ tables_1, d.before a0 Z = true) (a1 : Addr) (p1 : Int32) (I : Vm → Prop) (hst : oSt I) (us : List Int32) (j : Nat) (cs : Int32) (fm : Value) (x0 x1 x2 : Int32) (h0 : Heap) (n0 : Nat) (Z0 : n0 ≤ h0.size) (WW : own_W Z h0 cs fm) (TS : own_T Z h0 a1 us) (hu : us.length ≤ 4) (hm : us.length.toInt32 - p1 = (3 : Int32)) (hj : p1.toInt = (j : Int)) (h4 : j ≤ 4) (hv0 : us[j + 0]? = some x0) (hx0 : own_chr x0) (hv1 : us[j + 1]? = some x1) (hx1 : own_chr x1) (hv2 : us[j + 2]? = some x2) (hx2 : own_chr x2) :
    oC l Z n0 I (fun _ => I) (⟨"com/example/encase/encase/codec/Labels", "lowerAscii", "(Ljava/lang/String;I)Ljava/lang/String;"⟩ : MethodName) prog_20_method_12_code 4 (some (.object "java/lang/String")) ({ frames := 6, cells := 4, slots := 20, locals := 100 } : Room) 4 20 #[(.ref a1), (.int p1)] h0 (fun v h => ∃ r, v = some (.ref r) ∧ Keep h0 h [] ∧ own_T Z h r ([own_low x0, own_low x1, own_low x2] : List Int32)) := by
  refine oC.of (b := false) (L := #[.val (.ref a1), .val (.int p1), .unset, .unset]) pn5 Z0 (fun q => (nomatch q)) (fun m => by first | (simp [entryFrame, mkF, argsToLocals, Value.category]; done) | rfl) ?_
  intro p e s m below meth c T H
  refine o_aloadN H rfl rfl d5_0 rfl ?_
  refine o_virtual H [] [] ((rmLen l Z a0 hw a1 I hst us cs fm h0 n0 H.le WW TS hu)) (TS).exa (w32 hw) (w33 hw) (o_nf (w35 hw)) (w35 hw) (w34 hw) (w9 hw) (w36 hw) (by decide) (lenOf pd6 rfl) rfl rfl (by decide) (Nat.le_of_ble_eq_true rfl) (by decide) (by decide) d5_1 rfl (fun _ q => q) hst ?_
  intro T1 v1 h1 H1 q1
  obtain ⟨rfl, rfl⟩ := q1
  show oG p e below s n0 _ _ _ _ (T1.setTop (mkF m 4 #[.val (.ref a1), .val (.int p1), .unset, .unset] [(.int (us.length.toInt32))]))
  refine o_iloadN H1 rfl d5_4 rfl ?_
  refine o_isub H1 d5_5 rfl ?_
  rw [show (us.length.toInt32 - p1) = (3 : Int32) from hm]
  refine o_newarr (aty := .char) H1 3 3 (w1 hw) (by decide) (by decide) (by decide) d5_6 rfl (by decide) (by decide) ?_
  intro T2 h2 b2 g2 H2 E2 A2
  have z2 : n0 ≤ b2 := by rw [g2]; exact H1.le
  have y2 : h0.size ≤ b2 := by rw [g2]; exact (Keep.refl h0 []).1
  have k3 := (Keep.refl h0 []).ext E2
  have f4 : oA .char Z h2 b2 [(.int 0), (.int 0), (.int 0)] := A2
  refine o_astoreN H2 (L' := #[.val (.ref a1), .val (.int p1), .val (.ref b2), .unset]) rfl rfl d5_8 rfl ?_
  refine o_iconst H2 (0 : Int32) rfl d5_9 rfl ?_
  refine o_istoreN H2 (L' := #[.val (.ref a1), .val (.int p1), .val (.ref b2), .val (.int (0 : Int32))]) rfl d5_10 rfl ?_
  refine o_iloadN H2 rfl d5_11 rfl ?_
  refine o_aloadN H2 rfl rfl d5_12 rfl ?_
  refine o_arraylength H2 (3 : Int32) f4 rfl d5_13 rfl ?_
  refine o_icmp_f H2 d5_14 (by decide) rfl ?_
  refine o_aloadN H2 rfl rfl d5_17 rfl ?_
  refine o_iloadN H2 rfl d5_18 rfl ?_
  refine o_aloadN H2 rfl rfl d5_19 rfl ?_
  refine o_iloadN H2 rfl d5_20 rfl ?_
  refine o_iloadN H2 rfl d5_21 rfl ?_
  refine o_iadd H2 d5_22 rfl ?_
  refine o_virtual H2 [(.int (p1 + (0 : Int32)))] [(.int (0 : Int32)), (.ref b2)] (rmCh l Z a0 hw a1 (p1 + (0 : Int32)) I hst us (j + 0) x0 cs fm h2 n0 H2.le (WW.ext (o_kext k3)) (TS.ext (o_kext k3)) hu (own_pk hj h4 (by decide) (by decide)) hv0 hx0) ((TS.ext (o_kext k3))).exa (w59 hw) (w60 hw) (o_nf (w62 hw)) (w62 hw) (w61 hw) (w9 hw) (w63 hw) (by decide) (lenOf pd12 rfl) rfl rfl (by decide) (Nat.le_of_ble_eq_true rfl) (by decide) (by decide) d5_23 rfl (fun _ q => q) hst ?_
  intro T5 v5 h5 H5 q5
  obtain ⟨rfl, rfl⟩ := q5
  show oG p e below s n0 _ _ _ _ (T5.setTop (mkF m 26 #[.val (.ref a1), .val (.int p1), .val (.ref b2), .val (.int (0 : Int32))] [(.int x0), (.int (0 : Int32)), (.ref b2)]))
  refine o_static H5 [(.int x0)] [(.int (0 : Int32)), (.ref b2)] (rm17 l Z a0 hw x0 I hst  h2 n0 H5.le hx0) (w81 hw) (w82 hw) (w30 hw) (w83 hw) (by decide) (lenOf pd17 rfl) rfl rfl (by decide) (Nat.le_of_ble_eq_true rfl) (by decide) (by decide) d5_26 rfl (fun _ q => q) hst ?_
  intro T6 v6 h6 H6 q6
  obtain ⟨rfl, rfl⟩ := q6
  show oG p e below s n0 _ _ _ _ (T6.setTop (mkF m 29 #[.val (.ref a1), .val (.int p1), .val (.ref b2), .val (.int (0 : Int32))] [(.int (own_low x0)), (.int (0 : Int32)), (.ref b2)]))
  refine o_castore H6 0 f4 (by decide) (Nat.le_of_ble_eq_true rfl) z2 d5_29 rfl ?_
  intro T7 h7 H7 W7 A7
  have k8 := k3.wr W7 (Or.inr y2)
  have f9 := ((TS.ext (o_kext k3))).exa.wr W7
  have f10 : oA .char Z h7 b2 [(.int (nar .char (own_low x0))), (.int 0), (.int 0)] := A7
  refine o_iinc H7 (1 : Int32) (1 : Int32) rfl (by decide) rfl (L' := #[.val (.ref a1), .val (.int p1), .val (.ref b2), .val (.int (1 : Int32))]) rfl d5_30 rfl ?_
  refine o_goto H7 d5_33 (pt := 11) (by decide) (by decide) ?_
  refine o_iloadN H7 rfl d5_11 rfl ?_
  refine o_aloadN H7 rfl rfl d5_12 rfl ?_
  refine o_arraylength H7 (3 : Int32) f10 rfl d5_13 rfl ?_
  refine o_icmp_f H7 d5_14 (by decide) rfl ?_
  refine o_aloadN H7 rfl rfl d5_17 rfl ?_
  refine o_iloadN H7 rfl d5_18 rfl ?_
  refine o_aloadN H7 rfl rfl d5_19 rfl ?_
  refine o_iloadN H7 rfl d5_20 rfl ?_
  refine o_iloadN H7 rfl d5_21 rfl ?_
  refine o_iadd H7 d5_22 rfl ?_
  refine o_virtual H7 [(.int (p1 + (1 : Int32)))] [(.int (1 : Int32)), (.ref b2)] (rmCh l Z a0 hw a1 (p1 + (1 : Int32)) I hst us (j + 1) x1 cs fm h7 n0 H7.le (WW.ext (o_kext k8)) (TS.ext (o_kext k8)) hu (own_pk hj h4 (by decide) (by decide)) hv1 hx1) ((TS.ext (o_kext k8))).exa (w59 hw) (w60 hw) (o_nf (w62 hw)) (w62 hw) (w61 hw) (w9 hw) (w63 hw) (by decide) (lenOf pd12 rfl) rfl rfl (by decide) (Nat.le_of_ble_eq_true rfl) (by decide) (by decide) d5_23 rfl (fun _ q => q) hst ?_
  intro T11 v11 h11 H11 q11
  obtain ⟨rfl, rfl⟩ := q11
  show oG p e below s n0 _ _ _ _ (T11.setTop (mkF m 26 #[.val (.ref a1), .val (.int p1), .val (.ref b2), .val (.int (1 : Int32))] [(.int x1), (.int (1 : Int32)), (.ref b2)]))
  refine o_static H11 [(.int x1)] [(.int (1 : Int32)), (.ref b2)] (rm17 l Z a0 hw x1 I hst  h7 n0 H11.le hx1) (w81 hw) (w82 hw) (w30 hw) (w83 hw) (by decide) (lenOf pd17 rfl) rfl rfl (by decide) (Nat.le_of_ble_eq_true rfl) (by decide) (by decide) d5_26 rfl (fun _ q => q) hst ?_
  intro T12 v12 h12 H12 q12
  obtain ⟨rfl, rfl⟩ := q12
  show oG p e below s n0 _ _ _ _ (T12.setTop (mkF m 29 #[.val (.ref a1), .val (.int p1), .val (.ref b2), .val (.int (1 : Int32))] [(.int (own_low x1)), (.int (1 : Int32)), (.ref b2)]))
  refine o_castore H12 1 f10 (by decide) (Nat.le_of_ble_eq_true rfl) z2 d5_29 rfl ?_
  intro T13 h13 H13 W13 A13
  have k14 := k8.wr W13 (Or.inr y2)
  have f15 := ((TS.ext (o_kext k8))).exa.wr W13
  have f16 : oA .char Z h13 b2 [(.int (nar .char (own_low x0))), (.int (nar .char (own_low x1))), (.int 0)] := A13
  refine o_iinc H13 (1 : Int32) (2 : Int32) rfl (by decide) rfl (L' := #[.val (.ref a1), .val (.int p1), .val (.ref b2), .val (.int (2 : Int32))]) rfl d5_30 rfl ?_
  refine o_goto H13 d5_33 (pt := 11) (by decide) (by decide) ?_
  refine o_iloadN H13 rfl d5_11 rfl ?_
  refine o_aloadN H13 rfl rfl d5_12 rfl ?_
  refine o_arraylength H13 (3 : Int32) f16 rfl d5_13 rfl ?_
  refine o_icmp_f H13 d5_14 (by decide) rfl ?_
  refine o_aloadN H13 rfl rfl d5_17 rfl ?_
  refine o_iloadN H13 rfl d5_18 rfl ?_
  refine o_aloadN H13 rfl rfl d5_19 rfl ?_
  refine o_iloadN H13 rfl d5_20 rfl ?_
  refine o_iloadN H13 rfl d5_21 rfl ?_
  refine o_iadd H13 d5_22 rfl ?_
  refine o_virtual H13 [(.int (p1 + (2 : Int32)))] [(.int (2 : Int32)), (.ref b2)] (rmCh l Z a0 hw a1 (p1 + (2 : Int32)) I hst us (j + 2) x2 cs fm h13 n0 H13.le (WW.ext (o_kext k14)) (TS.ext (o_kext k14)) hu (own_pk hj h4 (by decide) (by decide)) hv2 hx2) ((TS.ext (o_kext k14))).exa (w59 hw) (w60 hw) (o_nf (w62 hw)) (w62 hw) (w61 hw) (w9 hw) (w63 hw) (by decide) (lenOf pd12 rfl) rfl rfl (by decide) (Nat.le_of_ble_eq_true rfl) (by decide) (by decide) d5_23 rfl (fun _ q => q) hst ?_
  intro T17 v17 h17 H17 q17
  obtain ⟨rfl, rfl⟩ := q17
  show oG p e below s n0 _ _ _ _ (T17.setTop (mkF m 26 #[.val (.ref a1), .val (.int p1), .val (.ref b2), .val (.int (2 : Int32))] [(.int x2), (.int (2 : Int32)), (.ref b2)]))
  refine o_static H17 [(.int x2)] [(.int (2 : Int32)), (.ref b2)] (rm17 l Z a0 hw x2 I hst  h13 n0 H17.le hx2) (w81 hw) (w82 hw) (w30 hw) (w83 hw) (by decide) (lenOf pd17 rfl) rfl rfl (by decide) (Nat.le_of_ble_eq_true rfl) (by decide) (by decide) d5_26 rfl (fun _ q => q) hst ?_
  intro T18 v18 h18 H18 q18
  obtain ⟨rfl, rfl⟩ := q18
  show oG p e below s n0 _ _ _ _ (T18.setTop (mkF m 29 #[.val (.ref a1), .val (.int p1), .val (.ref b2), .val (.int (2 : Int32))] [(.int (own_low x2)), (.int (2 : Int32)), (.ref b2)]))
  refine o_castore H18 2 f16 (by decide) (Nat.le_of_ble_eq_true rfl) z2 d5_29 rfl ?_
  intro T19 h19 H19 W19 A19
  have k20 := k14.wr W19 (Or.inr y2)
  have f21 := ((TS.ext (o_kext k14))).exa.wr W19
  have f22 : oA .char Z h19 b2 [(.int (nar .char (own_low x0))), (.int (nar .char (own_low x1))), (.int (nar .char (own_low x2)))] := A19
  refine o_iinc H19 (1 : Int32) (3 : Int32) rfl (by decide) rfl (L' := #[.val (.ref a1), .val (.int p1), .val (.ref b2), .val (.int (3 : Int32))]) rfl d5_30 rfl ?_
  refine o_goto H19 d5_33 (pt := 11) (by decide) (by decide) ?_
  refine o_iloadN H19 rfl d5_11 rfl ?_
  refine o_aloadN H19 rfl rfl d5_12 rfl ?_
  refine o_arraylength H19 (3 : Int32) f22 rfl d5_13 rfl ?_
  refine o_icmp_t H19 d5_14 (by decide) (pt := 36) (by decide) (by decide) ?_
  refine o_new H19 (w43 hw) (w8 hw) (w9 hw) d5_36 rfl (by decide) (by decide) ?_
  intro T23 h23 b23 g23 H23 E23 A23 D23
  have ne23_b2 : b2 ≠ b23 := by rw [g23]; exact Nat.ne_of_lt (f22).lt
  have z23 : n0 ≤ b23 := by rw [g23]; exact H19.le
  have y23 : h0.size ≤ b23 := by rw [g23]; exact k20.1
  have k24 := k20.ext E23
  have f25 := f22.ext E23
  have f26 : Fld Z h23 b23 "java/lang/String" "value" "[B" .null := D23 (Or.inr (w22 hw)) (ty := (.array .byte)) (by decide)
  have f27 : Fld Z h23 b23 "java/lang/String" "coder" "B" (.int (0 : Int32)) := D23 (Or.inr (w23 hw)) (ty := .byte) (by decide)
  refine o_dup H23 rfl d5_39 rfl ?_
  refine o_aloadN H23 rfl rfl d5_40 rfl ?_
  have AX : oA .char Z h23 b2 [(.int (own_low x0)), (.int (own_low x1)), (.int (own_low x2))] := by
    have q := f25
    rw [own_narc (own_low_c hx0), own_narc (own_low_c hx1), own_narc (own_low_c hx2)] at q
    exact q
  have hcx : ∀ u ∈ ([(own_low x0), (own_low x1), (own_low x2)] : List Int32), own_chr u := by
    intro u hu; simp only [List.mem_cons, List.not_mem_nil, or_false] at hu
    rcases hu with rfl | rfl | rfl
    · exact own_low_c hx0
    · exact own_low_c hx1
    · exact own_low_c hx2
  refine o_special H23 [(.ref b2)] [(.ref b23)] (rm2_3 l Z a0 hw b23 b2 I hst cs fm (own_low x0) (own_low x1) (own_low x2) h23 n0 H23.le A23 z23 f26 f27 AX hcx (WW.ext (o_kext k24))) rfl (w44 hw) (w11 hw) (w9 hw) (w12 hw) (by decide) (lenOf pd2 rfl) rfl rfl (by decide) (Nat.le_of_ble_eq_true rfl) (by decide) (by decide) d5_41 rfl (fun _ q => q) hst ?_
  intro T28 v28 h28 H28 q28
  obtain ⟨rfl, K28, T_28⟩ := q28
  have k29 := k24.trans K28 (allS (Or.inr y23) all0)
  have f30 := AX.keep K28 (ninS ne23_b2 nin0)
  have f31 := ((TS.ext (o_kext k24))).exa.keep K28
  show oG p e below s n0 _ _ _ _ (T28.setTop (mkF m 44 #[.val (.ref a1), .val (.int p1), .val (.ref b2), .val (.int (3 : Int32))] [(.ref b23)]))
  exact o_areturn H28 rfl rfl rfl rfl d5_44 hst (fun _ q => q) (by decide) (by decide) ⟨_, rfl, k29, T_28⟩
set_option maxRecDepth 65536 in
set_option maxHeartbeats 40000000 in
theorem rm5_4 (l : Launch) (Z : State) (a0 : Array Value) (hw : ∀ d ∈ tables_1, d.before a0 Z = true) (a1 : Addr) (p1 : Int32) (I : Vm → Prop) (hst : oSt I) (us : List Int32) (j : Nat) (cs : Int32) (fm : Value) (x0 x1 x2 x3 : Int32) (h0 : Heap) (n0 : Nat) (Z0 : n0 ≤ h0.size) (WW : own_W Z h0 cs fm) (TS : own_T Z h0 a1 us) (hu : us.length ≤ 4) (hm : us.length.toInt32 - p1 = (4 : Int32)) (hj : p1.toInt = (j : Int)) (h4 : j ≤ 4) (hv0 : us[j + 0]? = some x0) (hx0 : own_chr x0) (hv1 : us[j + 1]? = some x1) (hx1 : own_chr x1) (hv2 : us[j + 2]? = some x2) (hx2 : own_chr x2) (hv3 : us[j + 3]? = some x3) (hx3 : own_chr x3) :
    oC l Z n0 I (fun _ => I) (⟨"com/example/encase/encase/codec/Labels", "lowerAscii", "(Ljava/lang/String;I)Ljava/lang/String;"⟩ : MethodName) prog_20_method_12_code 4 (some (.object "java/lang/String")) ({ frames := 6, cells := 4, slots := 20, locals := 100 } : Room) 4 20 #[(.ref a1), (.int p1)] h0 (fun v h => ∃ r, v = some (.ref r) ∧ Keep h0 h [] ∧ own_T Z h r ([own_low x0, own_low x1, own_low x2, own_low x3] : List Int32)) := by
  refine oC.of (b := false) (L := #[.val (.ref a1), .val (.int p1), .unset, .unset]) pn5 Z0 (fun q => (nomatch q)) (fun m => by first | (simp [entryFrame, mkF, argsToLocals, Value.category]; done) | rfl) ?_
  intro p e s m below meth c T H
  refine o_aloadN H rfl rfl d5_0 rfl ?_
  refine o_virtual H [] [] ((rmLen l Z a0 hw a1 I hst us cs fm h0 n0 H.le WW TS hu)) (TS).exa (w32 hw) (w33 hw) (o_nf (w35 hw)) (w35 hw) (w34 hw) (w9 hw) (w36 hw) (by decide) (lenOf pd6 rfl) rfl rfl (by decide) (Nat.le_of_ble_eq_true rfl) (by decide) (by decide) d5_1 rfl (fun _ q => q) hst ?_
  intro T1 v1 h1 H1 q1
  obtain ⟨rfl, rfl⟩ := q1
  show oG p e below s n0 _ _ _ _ (T1.setTop (mkF m 4 #[.val (.ref a1), .val (.int p1), .unset, .unset] [(.int (us.length.toInt32))]))
  refine o_iloadN H1 rfl d5_4 rfl ?_
  refine o_isub H1 d5_5 rfl ?_
  rw [show (us.length.toInt32 - p1) = (4 : Int32) from hm]
  refine o_newarr (aty := .char) H1 4 4 (w1 hw) (by decide) (by decide) (by decide) d5_6 rfl (by decide) (by decide) ?_
  intro T2 h2 b2 g2 H2 E2 A2
  have z2 : n0 ≤ b2 := by rw [g2]; exact H1.le
  have y2 : h0.size ≤ b2 := by rw [g2]; exact (Keep.refl h0 []).1
  have k3 := (Keep.refl h0 []).ext E2
  have f4 : oA .char Z h2 b2 [(.int 0), (.int 0), (.int 0), (.int 0)] := A2
  refine o_astoreN H2 (L' := #[.val (.ref a1), .val (.int p1), .val (.ref b2), .unset]) rfl rfl d5_8 rfl ?_
  refine o_iconst H2 (0 : Int32) rfl d5_9 rfl ?_
  refine o_istoreN H2 (L' := #[.val (.ref a1), .val (.int p1), .val (.ref b2), .val (.int (0 : Int32))]) rfl d5_10 rfl ?_
  refine o_iloadN H2 rfl d5_11 rfl ?_
  refine o_aloadN H2 rfl rfl d5_12 rfl ?_
  refine o_arraylength H2 (4 : Int32) f4 rfl d5_13 rfl ?_
  refine o_icmp_f H2 d5_14 (by decide) rfl ?_
  refine o_aloadN H2 rfl rfl d5_17 rfl ?_
  refine o_iloadN H2 rfl d5_18 rfl ?_
  refine o_aloadN H2 rfl rfl d5_19 rfl ?_
  refine o_iloadN H2 rfl d5_20 rfl ?_
  refine o_iloadN H2 rfl d5_21 rfl ?_
  refine o_iadd H2 d5_22 rfl ?_
  refine o_virtual H2 [(.int (p1 + (0 : Int32)))] [(.int (0 : Int32)), (.ref b2)] (rmCh l Z a0 hw a1 (p1 + (0 : Int32)) I hst us (j + 0) x0 cs fm h2 n0 H2.le (WW.ext (o_kext k3)) (TS.ext (o_kext k3)) hu (own_pk hj h4 (by decide) (by decide)) hv0 hx0) ((TS.ext (o_kext k3))).exa (w59 hw) (w60 hw) (o_nf (w62 hw)) (w62 hw) (w61 hw) (w9 hw) (w63 hw) (by decide) (lenOf pd12 rfl) rfl rfl (by decide) (Nat.le_of_ble_eq_true rfl) (by decide) (by decide) d5_23 rfl (fun _ q => q) hst ?_
  intro T5 v5 h5 H5 q5
  obtain ⟨rfl, rfl⟩ := q5
  show oG p e below s n0 _ _ _ _ (T5.setTop (mkF m 26 #[.val (.ref a1), .val (.int p1), .val (.ref b2), .val (.int (0 : Int32))] [(.int x0), (.int (0 : Int32)), (.ref b2)]))
  refine o_static H5 [(.int x0)] [(.int (0 : Int32)), (.ref b2)] (rm17 l Z a0 hw x0 I hst  h2 n0 H5.le hx0) (w81 hw) (w82 hw) (w30 hw) (w83 hw) (by decide) (lenOf pd17 rfl) rfl rfl (by decide) (Nat.le_of_ble_eq_true rfl) (by decide) (by decide) d5_26 rfl (fun _ q => q) hst ?_
  intro T6 v6 h6 H6 q6
  obtain ⟨rfl, rfl⟩ := q6
  show oG p e below s n0 _ _ _ _ (T6.setTop (mkF m 29 #[.val (.ref a1), .val (.int p1), .val (.ref b2), .val (.int (0 : Int32))] [(.int (own_low x0)), (.int (0 : Int32)), (.ref b2)]))
  refine o_castore H6 0 f4 (by decide) (Nat.le_of_ble_eq_true rfl) z2 d5_29 rfl ?_
  intro T7 h7 H7 W7 A7
  have k8 := k3.wr W7 (Or.inr y2)
  have f9 := ((TS.ext (o_kext k3))).exa.wr W7
  have f10 : oA .char Z h7 b2 [(.int (nar .char (own_low x0))), (.int 0), (.int 0), (.int 0)] := A7
  refine o_iinc H7 (1 : Int32) (1 : Int32) rfl (by decide) rfl (L' := #[.val (.ref a1), .val (.int p1), .val (.ref b2), .val (.int (1 : Int32))]) rfl d5_30 rfl ?_
  refine o_goto H7 d5_33 (pt := 11) (by decide) (by decide) ?_
  refine o_iloadN H7 rfl d5_11 rfl ?_
  refine o_aloadN H7 rfl rfl d5_12 rfl ?_
  refine o_arraylength H7 (4 : Int32) f10 rfl d5_13 rfl ?_
  refine o_icmp_f H7 d5_14 (by decide) rfl ?_
  refine o_aloadN H7 rfl rfl d5_17 rfl ?_
  refine o_iloadN H7 rfl d5_18 rfl ?_
  refine o_aloadN H7 rfl rfl d5_19 rfl ?_
  refine o_iloadN H7 rfl d5_20 rfl ?_
  refine o_iloadN H7 rfl d5_21 rfl ?_
  refine o_iadd H7 d5_22 rfl ?_
  refine o_virtual H7 [(.int (p1 + (1 : Int32)))] [(.int (1 : Int32)), (.ref b2)] (rmCh l Z a0 hw a1 (p1 + (1 : Int32)) I hst us (j + 1) x1 cs fm h7 n0 H7.le (WW.ext (o_kext k8)) (TS.ext (o_kext k8)) hu (own_pk hj h4 (by decide) (by decide)) hv1 hx1) ((TS.ext (o_kext k8))).exa (w59 hw) (w60 hw) (o_nf (w62 hw)) (w62 hw) (w61 hw) (w9 hw) (w63 hw) (by decide) (lenOf pd12 rfl) rfl rfl (by decide) (Nat.le_of_ble_eq_true rfl) (by decide) (by decide) d5_23 rfl (fun _ q => q) hst ?_
  intro T11 v11 h11 H11 q11
  obtain ⟨rfl, rfl⟩ := q11
  show oG p e below s n0 _ _ _ _ (T11.setTop (mkF m 26 #[.val (.ref a1), .val (.int p1), .val (.ref b2), .val (.int (1 : Int32))] [(.int x1), (.int (1 : Int32)), (.ref b2)]))
  refine o_static H11 [(.int x1)] [(.int (1 : Int32)), (.ref b2)] (rm17 l Z a0 hw x1 I hst  h7 n0 H11.le hx1) (w81 hw) (w82 hw) (w30 hw) (w83 hw) (by decide) (lenOf pd17 rfl) rfl rfl (by decide) (Nat.le_of_ble_eq_true rfl) (by decide) (by decide) d5_26 rfl (fun _ q => q) hst ?_
  intro T12 v12 h12 H12 q12
  obtain ⟨rfl, rfl⟩ := q12
  show oG p e below s n0 _ _ _ _ (T12.setTop (mkF m 29 #[.val (.ref a1), .val (.int p1), .val (.ref b2), .val (.int (1 : Int32))] [(.int (own_low x1)), (.int (1 : Int32)), (.ref b2)]))
  refine o_castore H12 1 f10 (by decide) (Nat.le_of_ble_eq_true rfl) z2 d5_29 rfl ?_
  intro T13 h13 H13 W13 A13
  have k14 := k8.wr W13 (Or.inr y2)
  have f15 := ((TS.ext (o_kext k8))).exa.wr W13
  have f16 : oA .char Z h13 b2 [(.int (nar .char (own_low x0))), (.int (nar .char (own_low x1))), (.int 0), (.int 0)] := A13
  refine o_iinc H13 (1 : Int32) (2 : Int32) rfl (by decide) rfl (L' := #[.val (.ref a1), .val (.int p1), .val (.ref b2), .val (.int (2 : Int32))]) rfl d5_30 rfl ?_
  refine o_goto H13 d5_33 (pt := 11) (by decide) (by decide) ?_
  refine o_iloadN H13 rfl d5_11 rfl ?_
  refine o_aloadN H13 rfl rfl d5_12 rfl ?_
  refine o_arraylength H13 (4 : Int32) f16 rfl d5_13 rfl ?_
  refine o_icmp_f H13 d5_14 (by decide) rfl ?_
  refine o_aloadN H13 rfl rfl d5_17 rfl ?_
  refine o_iloadN H13 rfl d5_18 rfl ?_
  refine o_aloadN H13 rfl rfl d5_19 rfl ?_
  refine o_iloadN H13 rfl d5_20 rfl ?_
  refine o_iloadN H13 rfl d5_21 rfl ?_
  refine o_iadd H13 d5_22 rfl ?_
  refine o_virtual H13 [(.int (p1 + (2 : Int32)))] [(.int (2 : Int32)), (.ref b2)] (rmCh l Z a0 hw a1 (p1 + (2 : Int32)) I hst us (j + 2) x2 cs fm h13 n0 H13.le (WW.ext (o_kext k14)) (TS.ext (o_kext k14)) hu (own_pk hj h4 (by decide) (by decide)) hv2 hx2) ((TS.ext (o_kext k14))).exa (w59 hw) (w60 hw) (o_nf (w62 hw)) (w62 hw) (w61 hw) (w9 hw) (w63 hw) (by decide) (lenOf pd12 rfl) rfl rfl (by decide) (Nat.le_of_ble_eq_true rfl) (by decide) (by decide) d5_23 rfl (fun _ q => q) hst ?_
  intro T17 v17 h17 H17 q17
  obtain ⟨rfl, rfl⟩ := q17
  show oG p e below s n0 _ _ _ _ (T17.setTop (mkF m 26 #[.val (.ref a1), .val (.int p1), .val (.ref b2), .val (.int (2 : Int32))] [(.int x2), (.int (2 : Int32)), (.ref b2)]))
  refine o_static H17 [(.int x2)] [(.int (2 : Int32)), (.ref b2)] (rm17 l Z a0 hw x2 I hst  h13 n0 H17.le hx2) (w81 hw) (w82 hw) (w30 hw) (w83 hw) (by decide) (lenOf pd17 rfl) rfl rfl (by decide) (Nat.le_of_ble_eq_true rfl) (by decide) (by decide) d5_26 rfl (fun _ q => q) hst ?_
  intro T18 v18 h18 H18 q18
  obtain ⟨rfl, rfl⟩ := q18
  show oG p e below s n0 _ _ _ _ (T18.setTop (mkF m 29 #[.val (.ref a1), .val (.int p1), .val (.ref b2), .val (.int (2 : Int32))] [(.int (own_low x2)), (.int (2 : Int32)), (.ref b2)]))
  refine o_castore H18 2 f16 (by decide) (Nat.le_of_ble_eq_true rfl) z2 d5_29 rfl ?_
  intro T19 h19 H19 W19 A19
  have k20 := k14.wr W19 (Or.inr y2)
  have f21 := ((TS.ext (o_kext k14))).exa.wr W19
  have f22 : oA .char Z h19 b2 [(.int (nar .char (own_low x0))), (.int (nar .char (own_low x1))), (.int (nar .char (own_low x2))), (.int 0)] := A19
  refine o_iinc H19 (1 : Int32) (3 : Int32) rfl (by decide) rfl (L' := #[.val (.ref a1), .val (.int p1), .val (.ref b2), .val (.int (3 : Int32))]) rfl d5_30 rfl ?_
  refine o_goto H19 d5_33 (pt := 11) (by decide) (by decide) ?_
  refine o_iloadN H19 rfl d5_11 rfl ?_
  refine o_aloadN H19 rfl rfl d5_12 rfl ?_
  refine o_arraylength H19 (4 : Int32) f22 rfl d5_13 rfl ?_
  refine o_icmp_f H19 d5_14 (by decide) rfl ?_
  refine o_aloadN H19 rfl rfl d5_17 rfl ?_
  refine o_iloadN H19 rfl d5_18 rfl ?_
  refine o_aloadN H19 rfl rfl d5_19 rfl ?_
  refine o_iloadN H19 rfl d5_20 rfl ?_
  refine o_iloadN H19 rfl d5_21 rfl ?_
  refine o_iadd H19 d5_22 rfl ?_
  refine o_virtual H19 [(.int (p1 + (3 : Int32)))] [(.int (3 : Int32)), (.ref b2)] (rmCh l Z a0 hw a1 (p1 + (3 : Int32)) I hst us (j + 3) x3 cs fm h19 n0 H19.le (WW.ext (o_kext k20)) (TS.ext (o_kext k20)) hu (own_pk hj h4 (by decide) (by decide)) hv3 hx3) ((TS.ext (o_kext k20))).exa (w59 hw) (w60 hw) (o_nf (w62 hw)) (w62 hw) (w61 hw) (w9 hw) (w63 hw) (by decide) (lenOf pd12 rfl) rfl rfl (by decide) (Nat.le_of_ble_eq_true rfl) (by decide) (by decide) d5_23 rfl (fun _ q => q) hst ?_
  intro T23 v23 h23 H23 q23
  obtain ⟨rfl, rfl⟩ := q23
  show oG p e below s n0 _ _ _ _ (T23.setTop (mkF m 26 #[.val (.ref a1), .val (.int p1), .val (.ref b2), .val (.int (3 : Int32))] [(.int x3), (.int (3 : Int32)), (.ref b2)]))
  refine o_static H23 [(.int x3)] [(.int (3 : Int32)), (.ref b2)] (rm17 l Z a0 hw x3 I hst  h19 n0 H23.le hx3) (w81 hw) (w82 hw) (w30 hw) (w83 hw) (by decide) (lenOf pd17 rfl) rfl rfl (by decide) (Nat.le_of_ble_eq_true rfl) (by decide) (by decide) d5_26 rfl (fun _ q => q) hst ?_
  intro T24 v24 h24 H24 q24
  obtain ⟨rfl, rfl⟩ := q24
  show oG p e below s n0 _ _ _ _ (T24.setTop (mkF m 29 #[.val (.ref a1), .val (.int p1), .val (.ref b2), .val (.int (3 : Int32))] [(.int (own_low x3)), (.int (3 : Int32)), (.ref b2)]))
  refine o_castore H24 3 f22 (by decide) (Nat.le_of_ble_eq_true rfl) z2 d5_29 rfl ?_
  intro T25 h25 H25 W25 A25
  have k26 := k20.wr W25 (Or.inr y2)
  have f27 := ((TS.ext (o_kext k20))).exa.wr W25
  have f28 : oA .char Z h25 b2 [(.int (nar .char (own_low x0))), (.int (nar .char (own_low x1))), (.int (nar .char (own_low x2))), (.int (nar .char (own_low x3)))] := A25
  refine o_iinc H25 (1 : Int32) (4 : Int32) rfl (by decide) rfl (L' := #[.val (.ref a1), .val (.int p1), .val (.ref b2), .val (.int (4 : Int32))]) rfl d5_30 rfl ?_
  refine o_goto H25 d5_33 (pt := 11) (by decide) (by decide) ?_
  refine o_iloadN H25 rfl d5_11 rfl ?_
  refine o_aloadN H25 rfl rfl d5_12 rfl ?_
  refine o_arraylength H25 (4 : Int32) f28 rfl d5_13 rfl ?_
  refine o_icmp_t H25 d5_14 (by decide) (pt := 36) (by decide) (by decide) ?_
  refine o_new H25 (w43 hw) (w8 hw) (w9 hw) d5_36 rfl (by decide) (by decide) ?_
  intro T29 h29 b29 g29 H29 E29 A29 D29
  have ne29_b2 : b2 ≠ b29 := by rw [g29]; exact Nat.ne_of_lt (f28).lt
  have z29 : n0 ≤ b29 := by rw [g29]; exact H25.le
  have y29 : h0.size ≤ b29 := by rw [g29]; exact k26.1
  have k30 := k26.ext E29
  have f31 := f28.ext E29
  have f32 : Fld Z h29 b29 "java/lang/String" "value" "[B" .null := D29 (Or.inr (w22 hw)) (ty := (.array .byte)) (by decide)
  have f33 : Fld Z h29 b29 "java/lang/String" "coder" "B" (.int (0 : Int32)) := D29 (Or.inr (w23 hw)) (ty := .byte) (by decide)
  refine o_dup H29 rfl d5_39 rfl ?_
  refine o_aloadN H29 rfl rfl d5_40 rfl ?_
  have AX : oA .char Z h29 b2 [(.int (own_low x0)), (.int (own_low x1)), (.int (own_low x2)), (.int (own_low x3))] := by
    have q := f31
    rw [own_narc (own_low_c hx0), own_narc (own_low_c hx1), own_narc (own_low_c hx2), own_narc (own_low_c hx3)] at q
    exact q
  have hcx : ∀ u ∈ ([(own_low x0), (own_low x1), (own_low x2), (own_low x3)] : List Int32), own_chr u := by
    intro u hu; simp only [List.mem_cons, List.not_mem_nil, or_false] at hu
    rcases hu with rfl | rfl | rfl | rfl
    · exact own_low_c hx0
    · exact own_low_c hx1
    · exact own_low_c hx2
    · exact own_low_c hx3
  refine o_special H29 [(.ref b2)] [(.ref b29)] (rm2_4 l Z a0 hw b29 b2 I hst cs fm (own_low x0) (own_low x1) (own_low x2) (own_low x3) h29 n0 H29.le A29 z29 f32 f33 AX hcx (WW.ext (o_kext k30))) rfl (w44 hw) (w11 hw) (w9 hw) (w12 hw) (by decide) (lenOf pd2 rfl) rfl rfl (by decide) (Nat.le_of_ble_eq_true rfl) (by decide) (by decide) d5_41 rfl (fun _ q => q) hst ?_
  intro T34 v34 h34 H34 q34
  obtain ⟨rfl, K34, T_34⟩ := q34
  have k35 := k30.trans K34 (allS (Or.inr y29) all0)
  have f36 := AX.keep K34 (ninS ne29_b2 nin0)
  have f37 := ((TS.ext (o_kext k30))).exa.keep K34
  show oG p e below s n0 _ _ _ _ (T34.setTop (mkF m 44 #[.val (.ref a1), .val (.int p1), .val (.ref b2), .val (.int (4 : Int32))] [(.ref b29)]))
  exact o_areturn H34 rfl rfl rfl rfl d5_44 hst (fun _ q => q) (by decide) (by decide) ⟨_, rfl, k35, T_34⟩
theorem d8_0 : decode method_4_code 0 = .ok (.iload 4, 2) := by decide +kernel
theorem d8_2 : decode method_4_code 2 = .ok (.iload_n 3, 1) := by decide +kernel
theorem d8_3 : decode method_4_code 3 = .ok (.if_icmp .lt 5, 3) := by decide +kernel
theorem d8_6 : decode method_4_code 6 = .ok (.iconst 1, 1) := by decide +kernel
theorem d8_7 : decode method_4_code 7 = .ok (.ireturn, 1) := by decide +kernel
theorem d8_8 : decode method_4_code 8 = .ok (.aload_n 0, 1) := by decide +kernel
theorem d8_9 : decode method_4_code 9 = .ok (.iload 4, 2) := by decide +kernel
theorem d8_11 : decode method_4_code 11 = .ok (.invokevirtual 34, 3) := by decide +kernel
theorem d8_14 : decode method_4_code 14 = .ok (.aload_n 1, 1) := by decide +kernel
theorem d8_15 : decode method_4_code 15 = .ok (.iload_n 2, 1) := by decide +kernel
theorem d8_16 : decode method_4_code 16 = .ok (.iload 4, 2) := by decide +kernel
theorem d8_18 : decode method_4_code 18 = .ok (.iadd, 1) := by decide +kernel
theorem d8_19 : decode method_4_code 19 = .ok (.caload, 1) := by decide +kernel
theorem d8_20 : decode method_4_code 20 = .ok (.invokestatic 38, 3) := by decide +kernel
theorem d8_23 : decode method_4_code 23 = .ok (.if_icmp .ne 7, 3) := by decide +kernel
theorem d8_26 : decode method_4_code 26 = .ok (.iconst 1, 1) := by decide +kernel
theorem d8_27 : decode method_4_code 27 = .ok (.goto 4, 3) := by decide +kernel
theorem d8_31 : decode method_4_code 31 = .ok (.ireturn, 1) := by decide +kernel
theorem pn8 : plainFor (⟨"com/example/encase/encase/codec/LabelsLowerAsciiPinLaw", "at", "(Ljava/lang/String;[CIII)Z"⟩ : MethodName) = true := plainFor_of_name (by first | (simp [plainName, overriddenIn]; done) | decide +kernel)
theorem pd8 : parseMethodDescriptor "(Ljava/lang/String;[CIII)Z" = some ⟨[(.object "java/lang/String"), (.array .char), .int, .int, .int], some .boolean⟩ := by decide +kernel
set_option maxRecDepth 65536 in
set_option maxHeartbeats 40000000 in
theorem rm8 (l : Launch) (Z : State) (a0 : Array Value) (hw : ∀ d ∈ tables_1, d.before a0 Z = true) (a1 : Addr) (a2 : Addr) (p1 : Int32) (p2 : Int32) (p3 : Int32) (I : Vm → Prop) (hst : oSt I) (us : List Int32) (es : List Value) (j jj : Nat) (z1 : Int32) (cs : Int32) (fm : Value) (h0 : Heap) (n0 : Nat) (Z0 : n0 ≤ h0.size) (WW : own_W Z h0 cs fm) (TS : own_T Z h0 a1 us) (hu : us.length ≤ 4) (AE : oA .char Z h0 a2 es) (hlt : p3 < p2) (hj : p3.toInt = (j : Int)) (hv : us[j]? = some (own_low z1)) (hjj : (p1 + p3).toInt = (jj : Int)) (he : es[jj]? = some (.int z1)) (hz : own_chr z1) :
    oC l Z n0 I (fun _ => I) (⟨"com/example/encase/encase/codec/LabelsLowerAsciiPinLaw", "at", "(Ljava/lang/String;[CIII)Z"⟩ : MethodName) method_4_code 5 (some .boolean) ({ frames := 5, cells := 0, slots := 0, locals := 76 } : Room) 0 0 #[(.ref a1), (.ref a2), (.int p1), (.int p2), (.int p3)] h0 (fun v h => v = some (.int 1) ∧ h0 = h) := by
  refine oC.of (b := false) (L := #[.val (.ref a1), .val (.ref a2), .val (.int p1), .val (.int p2), .val (.int p3)]) pn8 Z0 (fun q => (nomatch q)) (fun m => by first | (simp [entryFrame, mkF, argsToLocals, Value.category]; done) | rfl) ?_
  intro p e s m below meth c T H
  refine o_iload H rfl d8_0 rfl ?_
  refine o_iloadN H rfl d8_2 rfl ?_
  refine o_icmp_t H d8_3 (XT.ii_lt_t hlt) (pt := 8) (by decide) (by decide) ?_
  refine o_aloadN H rfl rfl d8_8 rfl ?_
  refine o_iload H rfl d8_9 rfl ?_
  refine o_virtual H [(.int p3)] [] (rmCh l Z a0 hw a1 p3 I hst us j (own_low z1) cs fm h0 n0 H.le WW TS hu hj hv (own_low_c hz)) TS.exa (w84 hw) (w60 hw) (o_nf (w62 hw)) (w62 hw) (w61 hw) (w9 hw) (w63 hw) (by decide) (lenOf pd12 rfl) rfl rfl (by decide) (Nat.le_of_ble_eq_true rfl) (by decide) (by decide) d8_11 rfl (fun _ q => q) hst ?_
  intro T1 v1 h1 H1 q1
  obtain ⟨rfl, rfl⟩ := q1
  show oG p e below s n0 _ _ _ _ (T1.setTop (mkF m 14 #[.val (.ref a1), .val (.ref a2), .val (.int p1), .val (.int p2), .val (.int p3)] [(.int (own_low z1))]))
  refine o_aloadN H1 rfl rfl d8_14 rfl ?_
  refine o_iloadN H1 rfl d8_15 rfl ?_
  refine o_iload H1 rfl d8_16 rfl ?_
  refine o_iadd H1 d8_18 rfl ?_
  refine o_caload H1 jj (.int z1) AE hjj he d8_19 rfl ?_
  refine o_static H1 [(.int z1)] [(.int (own_low z1))] (rm18 l Z a0 hw z1 I hst  h0 n0 H1.le hz) (w85 hw) (w86 hw) (w5 hw) (w87 hw) (by decide) (lenOf pd18 rfl) rfl rfl (by decide) (Nat.le_of_ble_eq_true rfl) (by decide) (by decide) d8_20 rfl (fun _ q => q) hst ?_
  intro T2 v2 h2 H2 q2
  obtain ⟨rfl, rfl⟩ := q2
  show oG p e below s n0 _ _ _ _ (T2.setTop (mkF m 23 #[.val (.ref a1), .val (.ref a2), .val (.int p1), .val (.int p2), .val (.int p3)] [(.int (own_low z1)), (.int (own_low z1))]))
  refine o_icmp_f H2 d8_23 (XT.ii_ne_f rfl) rfl ?_
  refine o_iconst H2 (1 : Int32) rfl d8_26 rfl ?_
  refine o_goto H2 d8_27 (pt := 31) (by decide) (by decide) ?_
  exact o_nreturn H2 .boolean rfl (by simp) d8_31 hst (fun _ q => q) (by decide) (by decide) ⟨rfl, rfl⟩
set_option maxRecDepth 65536 in
set_option maxHeartbeats 40000000 in
theorem rm8_N (l : Launch) (Z : State) (a0 : Array Value) (hw : ∀ d ∈ tables_1, d.before a0 Z = true) (a1 : Addr) (a2 : Addr) (p1 : Int32) (p2 : Int32) (p3 : Int32) (I : Vm → Prop) (hst : oSt I)  (h0 : Heap) (n0 : Nat) (Z0 : n0 ≤ h0.size) (hge : ¬ p3 < p2) :
    oC l Z n0 I (fun _ => I) (⟨"com/example/encase/encase/codec/LabelsLowerAsciiPinLaw", "at", "(Ljava/lang/String;[CIII)Z"⟩ : MethodName) method_4_code 5 (some .boolean) ({ frames := 5, cells := 0, slots := 0, locals := 76 } : Room) 0 0 #[(.ref a1), (.ref a2), (.int p1), (.int p2), (.int p3)] h0 (fun v h => v = some (.int 1) ∧ h0 = h) := by
  refine oC.of (b := false) (L := #[.val (.ref a1), .val (.ref a2), .val (.int p1), .val (.int p2), .val (.int p3)]) pn8 Z0 (fun q => (nomatch q)) (fun m => by first | (simp [entryFrame, mkF, argsToLocals, Value.category]; done) | rfl) ?_
  intro p e s m below meth c T H
  refine o_iload H rfl d8_0 rfl ?_
  refine o_iloadN H rfl d8_2 rfl ?_
  refine o_icmp_f H d8_3 (XT.ii_lt_f hge) rfl ?_
  refine o_iconst H (1 : Int32) rfl d8_6 rfl ?_
  exact o_nreturn H .boolean rfl (by simp) d8_7 hst (fun _ q => q) (by decide) (by decide) ⟨rfl, rfl⟩
theorem pn0 : plainFor x = true := plainFor_of_name (by first | (simp [plainName, overriddenIn]; done) | decide +kernel)
set_option maxRecDepth 65536 in
set_option maxHeartbeats 40000000 in
theorem rmL_0_0 (l : Launch) (Z : State) (a0 : Array Value) (hw : ∀ d ∈ tables_1, d.before a0 Z = true) (p1 p2 p3 p4 p5 p6 x0 x1 x2 x3 : Int32) (a8 : Addr) (cs : Int32) (fm : Value) (h0 : Heap) (n0 : Nat) (AV1 : oA .char Z h0 a8 [(.int x0), (.int x1), (.int x2), (.int x3)]) (hx0 : own_chr x0) (hx1 : own_chr x1) (hx2 : own_chr x2) (hx3 : own_chr x3) (WW : own_W Z h0 cs fm) (hh : Jvm.Lit.constHeld Z "java/lang/String" 7) (hcw : Jvm.Lit.compactW.before a0 Z = true) (E0 : Ext Z.heap h0) (p : Program) (e : Env) (s : State) (m : MethodId) (below : List Frame) (meth : Method) (c : Code) (T : State) (H : oH p l e room_1 s m #[.int p1, .int p2, .int p3, .int p4, .int p5, .int p6] below meth c code maxLocals x ret Z n0 T h0 1 4 false (fun vm => IB Z vm [])) :
    oG p e below s n0 32 1216 (fun _ _ => True) (fun v h => v = some (.int 1)) (T.setTop (mkF m 58 #[.val (.int p1), .val (.int p2), .val (.int p3), .val (.int p4), .val (.int p5), .val (.int p6), .val (.int (0 : Int32)), .val (.int (0 : Int32)), .val (.ref a8), .unset, .unset, .unset] [])) := by
  refine o_iload H rfl at_58 rfl ?_
  refine o_aload H rfl rfl at_60 rfl ?_
  refine o_static H [(.int (0 : Int32)), (.ref a8)] [] (rm1_0 l Z a0 hw a8 (fun vm => IB Z vm []) oSt.ib cs fm x0 x1 x2 x3 h0 n0 H.le AV1 hx0 hx1 hx2 hx3 WW hh hcw (Or.inl ⟨fun _ q => q, o_etrans E0 (o_kext (Keep.refl h0 []))⟩)) (w3 hw) (w4 hw) (w5 hw) (w6 hw) (by decide) (lenOf pd1 rfl) rfl rfl (by decide) (Nat.le_of_ble_eq_true rfl) (by decide) (by decide) at_62 rfl (fun _ q => q) oSt.ib ?_
  intro T1 v1 h1 H1 q1
  obtain ⟨r1, rfl, K1, T_1⟩ := q1
  have k2 := (Keep.refl h0 []).trans K1 all0
  show oG p e below s n0 _ _ _ _ (T1.setTop (mkF m 65 #[.val (.int p1), .val (.int p2), .val (.int p3), .val (.int p4), .val (.int p5), .val (.int p6), .val (.int (0 : Int32)), .val (.int (0 : Int32)), .val (.ref a8), .unset, .unset, .unset] [(.ref r1)]))
  obtain ⟨⟨lb, lc⟩, LF, HO⟩ := oH.open (P := fun ab : Addr × Addr => own_LF Z h1 ab.1 ab.2) (I' := fun ab vm => Lit (Z.setVm vm) "java/lang/String" 7 ab.1) H1
  refine o_astore HO (L' := #[.val (.int p1), .val (.int p2), .val (.int p3), .val (.int p4), .val (.int p5), .val (.int p6), .val (.int (0 : Int32)), .val (.int (0 : Int32)), .val (.ref a8), .val (.ref r1), .unset, .unset]) rfl rfl at_65 rfl ?_
  refine o_aload HO rfl rfl at_67 rfl ?_
  refine o_iload HO rfl at_69 rfl ?_
  refine o_static HO [(.ref r1), (.int (0 : Int32))] [] (rm5_0 l Z a0 hw r1 (0 : Int32) (fun vm => Lit (Z.setVm vm) "java/lang/String" 7 lb) oSt.lit ([] : List Int32) 0 cs fm  h1 n0 HO.le (WW.ext (o_kext k2)) T_1 (Nat.le_of_ble_eq_true rfl) (show (0 : Nat).toInt32 - (0 : Int32) = (0 : Int32) by decide) (by decide) (by decide)  hh hcw (Or.inr ⟨lb, lc, fun _ q => q, LF⟩)) (w28 hw) (w29 hw) (w30 hw) (w31 hw) (by decide) (lenOf pd5 rfl) rfl rfl (by decide) (Nat.le_of_ble_eq_true rfl) (by decide) (by decide) at_71 rfl (fun _ q => q) oSt.lit ?_
  intro T3 v3 h3 H3 q3
  obtain ⟨r3, rfl, K3, T_3⟩ := q3
  have k4 := k2.trans K3 all0
  have f5 := (T_1).exa.keep K3
  have f6 := T_1.ext (o_kext K3)
  show oG p e below s n0 _ _ _ _ (T3.setTop (mkF m 74 #[.val (.int p1), .val (.int p2), .val (.int p3), .val (.int p4), .val (.int p5), .val (.int p6), .val (.int (0 : Int32)), .val (.int (0 : Int32)), .val (.ref a8), .val (.ref r1), .unset, .unset] [(.ref r3)]))
  refine o_astore H3 (L' := #[.val (.int p1), .val (.int p2), .val (.int p3), .val (.int p4), .val (.int p5), .val (.int p6), .val (.int (0 : Int32)), .val (.int (0 : Int32)), .val (.ref a8), .val (.ref r1), .val (.ref r3), .unset]) rfl rfl at_74 rfl ?_
  refine o_iload H3 rfl at_76 rfl ?_
  refine o_iload H3 rfl at_78 rfl ?_
  refine o_isub H3 at_80 rfl ?_
  refine o_fold (0 : Int32) (by decide) ?_
  refine o_istore H3 (L' := #[.val (.int p1), .val (.int p2), .val (.int p3), .val (.int p4), .val (.int p5), .val (.int p6), .val (.int (0 : Int32)), .val (.int (0 : Int32)), .val (.ref a8), .val (.ref r1), .val (.ref r3), .val (.int (0 : Int32))]) rfl at_81 rfl ?_
  refine o_aload H3 rfl rfl at_83 rfl ?_
  refine o_virtual H3 [] [] ((rmLen l Z a0 hw r3 (fun vm => ∃ ab : Addr × Addr, own_LF Z h3 ab.1 ab.2 ∧ Lit (Z.setVm vm) "java/lang/String" 7 ab.1) own_lj ([] : List Int32) cs fm h3 n0 H3.le (WW.ext (o_kext k4)) T_3 (Nat.le_of_ble_eq_true rfl)).mono (fun v h q => (⟨q.1, q.2⟩ : v = some (.int (0 : Int32)) ∧ h3 = h))) (T_3).exa (w45 hw) (w33 hw) (o_nf (w35 hw)) (w35 hw) (w34 hw) (w9 hw) (w36 hw) (by decide) (lenOf pd6 rfl) rfl rfl (by decide) (Nat.le_of_ble_eq_true rfl) (by decide) (by decide) at_85 rfl (fun _ q => q) own_lj ?_
  intro T7 v7 h7 H7 q7
  obtain ⟨rfl, rfl⟩ := q7
  show oG p e below s n0 _ _ _ _ (T7.setTop (mkF m 88 #[.val (.int p1), .val (.int p2), .val (.int p3), .val (.int p4), .val (.int p5), .val (.int p6), .val (.int (0 : Int32)), .val (.int (0 : Int32)), .val (.ref a8), .val (.ref r1), .val (.ref r3), .val (.int (0 : Int32))] [(.int (0 : Int32))]))
  refine o_iload H7 rfl at_88 rfl ?_
  refine o_icmp_t H7 at_90 (by decide) (pt := 95) (by decide) (by decide) ?_
  refine o_aload H7 rfl rfl at_95 rfl ?_
  refine o_aload H7 rfl rfl at_97 rfl ?_
  refine o_iload H7 rfl at_99 rfl ?_
  refine o_iload H7 rfl at_101 rfl ?_
  refine o_iconst H7 (0 : Int32) rfl at_103 rfl ?_
  refine o_static H7 [(.ref r3), (.ref a8), (.int (0 : Int32)), (.int (0 : Int32)), (.int (0 : Int32))] [] (rm8_N l Z a0 hw r3 a8 (0 : Int32) (0 : Int32) (0 : Int32) (fun vm => ∃ ab : Addr × Addr, own_LF Z h3 ab.1 ab.2 ∧ Lit (Z.setVm vm) "java/lang/String" 7 ab.1) own_lj  h3 n0 H7.le (by decide)) (w46 hw) (w47 hw) (w5 hw) (w48 hw) (by decide) (lenOf pd8 rfl) rfl rfl (by decide) (Nat.le_of_ble_eq_true rfl) (by decide) (by decide) at_104 rfl (fun _ q => q) own_lj ?_
  intro T8 v8 h8 H8 q8
  obtain ⟨rfl, rfl⟩ := q8
  show oG p e below s n0 _ _ _ _ (T8.setTop (mkF m 107 #[.val (.int p1), .val (.int p2), .val (.int p3), .val (.int p4), .val (.int p5), .val (.int p6), .val (.int (0 : Int32)), .val (.int (0 : Int32)), .val (.ref a8), .val (.ref r1), .val (.ref r3), .val (.int (0 : Int32))] [(.int (1 : Int32))]))
  refine o_if_f H8 at_107 (by decide) rfl ?_
  refine o_aload H8 rfl rfl at_110 rfl ?_
  refine o_aload H8 rfl rfl at_112 rfl ?_
  refine o_iload H8 rfl at_114 rfl ?_
  refine o_iload H8 rfl at_116 rfl ?_
  refine o_iconst H8 (1 : Int32) rfl at_118 rfl ?_
  refine o_static H8 [(.ref r3), (.ref a8), (.int (0 : Int32)), (.int (0 : Int32)), (.int (1 : Int32))] [] (rm8_N l Z a0 hw r3 a8 (0 : Int32) (0 : Int32) (1 : Int32) (fun vm => ∃ ab : Addr × Addr, own_LF Z h3 ab.1 ab.2 ∧ Lit (Z.setVm vm) "java/lang/String" 7 ab.1) own_lj  h3 n0 H8.le (by decide)) (w46 hw) (w47 hw) (w5 hw) (w48 hw) (by decide) (lenOf pd8 rfl) rfl rfl (by decide) (Nat.le_of_ble_eq_true rfl) (by decide) (by decide) at_119 rfl (fun _ q => q) own_lj ?_
  intro T9 v9 h9 H9 q9
  obtain ⟨rfl, rfl⟩ := q9
  show oG p e below s n0 _ _ _ _ (T9.setTop (mkF m 122 #[.val (.int p1), .val (.int p2), .val (.int p3), .val (.int p4), .val (.int p5), .val (.int p6), .val (.int (0 : Int32)), .val (.int (0 : Int32)), .val (.ref a8), .val (.ref r1), .val (.ref r3), .val (.int (0 : Int32))] [(.int (1 : Int32))]))
  refine o_if_f H9 at_122 (by decide) rfl ?_
  refine o_aload H9 rfl rfl at_125 rfl ?_
  refine o_aload H9 rfl rfl at_127 rfl ?_
  refine o_iload H9 rfl at_129 rfl ?_
  refine o_iload H9 rfl at_131 rfl ?_
  refine o_iconst H9 (2 : Int32) rfl at_133 rfl ?_
  refine o_static H9 [(.ref r3), (.ref a8), (.int (0 : Int32)), (.int (0 : Int32)), (.int (2 : Int32))] [] (rm8_N l Z a0 hw r3 a8 (0 : Int32) (0 : Int32) (2 : Int32) (fun vm => ∃ ab : Addr × Addr, own_LF Z h3 ab.1 ab.2 ∧ Lit (Z.setVm vm) "java/lang/String" 7 ab.1) own_lj  h3 n0 H9.le (by decide)) (w46 hw) (w47 hw) (w5 hw) (w48 hw) (by decide) (lenOf pd8 rfl) rfl rfl (by decide) (Nat.le_of_ble_eq_true rfl) (by decide) (by decide) at_134 rfl (fun _ q => q) own_lj ?_
  intro T10 v10 h10 H10 q10
  obtain ⟨rfl, rfl⟩ := q10
  show oG p e below s n0 _ _ _ _ (T10.setTop (mkF m 137 #[.val (.int p1), .val (.int p2), .val (.int p3), .val (.int p4), .val (.int p5), .val (.int p6), .val (.int (0 : Int32)), .val (.int (0 : Int32)), .val (.ref a8), .val (.ref r1), .val (.ref r3), .val (.int (0 : Int32))] [(.int (1 : Int32))]))
  refine o_if_f H10 at_137 (by decide) rfl ?_
  refine o_aload H10 rfl rfl at_140 rfl ?_
  refine o_aload H10 rfl rfl at_142 rfl ?_
  refine o_iload H10 rfl at_144 rfl ?_
  refine o_iload H10 rfl at_146 rfl ?_
  refine o_iconst H10 (3 : Int32) rfl at_148 rfl ?_
  refine o_static H10 [(.ref r3), (.ref a8), (.int (0 : Int32)), (.int (0 : Int32)), (.int (3 : Int32))] [] (rm8_N l Z a0 hw r3 a8 (0 : Int32) (0 : Int32) (3 : Int32) (fun vm => ∃ ab : Addr × Addr, own_LF Z h3 ab.1 ab.2 ∧ Lit (Z.setVm vm) "java/lang/String" 7 ab.1) own_lj  h3 n0 H10.le (by decide)) (w46 hw) (w47 hw) (w5 hw) (w48 hw) (by decide) (lenOf pd8 rfl) rfl rfl (by decide) (Nat.le_of_ble_eq_true rfl) (by decide) (by decide) at_149 rfl (fun _ q => q) own_lj ?_
  intro T11 v11 h11 H11 q11
  obtain ⟨rfl, rfl⟩ := q11
  show oG p e below s n0 _ _ _ _ (T11.setTop (mkF m 152 #[.val (.int p1), .val (.int p2), .val (.int p3), .val (.int p4), .val (.int p5), .val (.int p6), .val (.int (0 : Int32)), .val (.int (0 : Int32)), .val (.ref a8), .val (.ref r1), .val (.ref r3), .val (.int (0 : Int32))] [(.int (1 : Int32))]))
  refine o_if_f H11 at_152 (by decide) rfl ?_
  refine o_iconst H11 (1 : Int32) rfl at_155 rfl ?_
  refine o_goto H11 at_156 (pt := 160) (by decide) (by decide) ?_
  exact o_nreturn H11 .boolean rfl (by simp) at_160 own_lj (fun _ _ => trivial) (by decide) (by decide) rfl
set_option maxRecDepth 65536 in
set_option maxHeartbeats 40000000 in
theorem rmL_1_0 (l : Launch) (Z : State) (a0 : Array Value) (hw : ∀ d ∈ tables_1, d.before a0 Z = true) (p1 p2 p3 p4 p5 p6 x0 x1 x2 x3 : Int32) (a8 : Addr) (cs : Int32) (fm : Value) (h0 : Heap) (n0 : Nat) (AV1 : oA .char Z h0 a8 [(.int x0), (.int x1), (.int x2), (.int x3)]) (hx0 : own_chr x0) (hx1 : own_chr x1) (hx2 : own_chr x2) (hx3 : own_chr x3) (WW : own_W Z h0 cs fm) (hh : Jvm.Lit.constHeld Z "java/lang/String" 7) (hcw : Jvm.Lit.compactW.before a0 Z = true) (E0 : Ext Z.heap h0) (p : Program) (e : Env) (s : State) (m : MethodId) (below : List Frame) (meth : Method) (c : Code) (T : State) (H : oH p l e room_1 s m #[.int p1, .int p2, .int p3, .int p4, .int p5, .int p6] below meth c code maxLocals x ret Z n0 T h0 1 4 false (fun vm => IB Z vm [])) :
    oG p e below s n0 32 1216 (fun _ _ => True) (fun v h => v = some (.int 1)) (T.setTop (mkF m 58 #[.val (.int p1), .val (.int p2), .val (.int p3), .val (.int p4), .val (.int p5), .val (.int p6), .val (.int (1 : Int32)), .val (.int (0 : Int32)), .val (.ref a8), .unset, .unset, .unset] [])) := by
  refine o_iload H rfl at_58 rfl ?_
  refine o_aload H rfl rfl at_60 rfl ?_
  refine o_static H [(.int (1 : Int32)), (.ref a8)] [] (rm1_1 l Z a0 hw a8 (fun vm => IB Z vm []) oSt.ib cs fm x0 x1 x2 x3 h0 n0 H.le AV1 hx0 hx1 hx2 hx3 WW) (w3 hw) (w4 hw) (w5 hw) (w6 hw) (by decide) (lenOf pd1 rfl) rfl rfl (by decide) (Nat.le_of_ble_eq_true rfl) (by decide) (by decide) at_62 rfl (fun _ q => q) oSt.ib ?_
  intro T1 v1 h1 H1 q1
  obtain ⟨r1, rfl, K1, T_1⟩ := q1
  have k2 := (Keep.refl h0 []).trans K1 all0
  show oG p e below s n0 _ _ _ _ (T1.setTop (mkF m 65 #[.val (.int p1), .val (.int p2), .val (.int p3), .val (.int p4), .val (.int p5), .val (.int p6), .val (.int (1 : Int32)), .val (.int (0 : Int32)), .val (.ref a8), .unset, .unset, .unset] [(.ref r1)]))
  refine o_astore H1 (L' := #[.val (.int p1), .val (.int p2), .val (.int p3), .val (.int p4), .val (.int p5), .val (.int p6), .val (.int (1 : Int32)), .val (.int (0 : Int32)), .val (.ref a8), .val (.ref r1), .unset, .unset]) rfl rfl at_65 rfl ?_
  refine o_aload H1 rfl rfl at_67 rfl ?_
  refine o_iload H1 rfl at_69 rfl ?_
  refine o_static H1 [(.ref r1), (.int (0 : Int32))] [] (rm5_1 l Z a0 hw r1 (0 : Int32) (fun vm => IB Z vm []) oSt.ib ([x0] : List Int32) 0 cs fm x0 h1 n0 H1.le (WW.ext (o_kext k2)) T_1 (Nat.le_of_ble_eq_true rfl) (show (1 : Nat).toInt32 - (0 : Int32) = (1 : Int32) by decide) (by decide) (by decide) rfl hx0) (w28 hw) (w29 hw) (w30 hw) (w31 hw) (by decide) (lenOf pd5 rfl) rfl rfl (by decide) (Nat.le_of_ble_eq_true rfl) (by decide) (by decide) at_71 rfl (fun _ q => q) oSt.ib ?_
  intro T3 v3 h3 H3 q3
  obtain ⟨r3, rfl, K3, T_3⟩ := q3
  have k4 := k2.trans K3 all0
  have f5 := (T_1).exa.keep K3
  have f6 := T_1.ext (o_kext K3)
  show oG p e below s n0 _ _ _ _ (T3.setTop (mkF m 74 #[.val (.int p1), .val (.int p2), .val (.int p3), .val (.int p4), .val (.int p5), .val (.int p6), .val (.int (1 : Int32)), .val (.int (0 : Int32)), .val (.ref a8), .val (.ref r1), .unset, .unset] [(.ref r3)]))
  refine o_astore H3 (L' := #[.val (.int p1), .val (.int p2), .val (.int p3), .val (.int p4), .val (.int p5), .val (.int p6), .val (.int (1 : Int32)), .val (.int (0 : Int32)), .val (.ref a8), .val (.ref r1), .val (.ref r3), .unset]) rfl rfl at_74 rfl ?_
  refine o_iload H3 rfl at_76 rfl ?_
  refine o_iload H3 rfl at_78 rfl ?_
  refine o_isub H3 at_80 rfl ?_
  refine o_fold (1 : Int32) (by decide) ?_
  refine o_istore H3 (L' := #[.val (.int p1), .val (.int p2), .val (.int p3), .val (.int p4), .val (.int p5), .val (.int p6), .val (.int (1 : Int32)), .val (.int (0 : Int32)), .val (.ref a8), .val (.ref r1), .val (.ref r3), .val (.int (1 : Int32))]) rfl at_81 rfl ?_
  refine o_aload H3 rfl rfl at_83 rfl ?_
  refine o_virtual H3 [] [] ((rmLen l Z a0 hw r3 (fun vm => IB Z vm []) oSt.ib ([own_low x0] : List Int32) cs fm h3 n0 H3.le (WW.ext (o_kext k4)) T_3 (Nat.le_of_ble_eq_true rfl)).mono (fun v h q => (⟨q.1, q.2⟩ : v = some (.int (1 : Int32)) ∧ h3 = h))) (T_3).exa (w45 hw) (w33 hw) (o_nf (w35 hw)) (w35 hw) (w34 hw) (w9 hw) (w36 hw) (by decide) (lenOf pd6 rfl) rfl rfl (by decide) (Nat.le_of_ble_eq_true rfl) (by decide) (by decide) at_85 rfl (fun _ q => q) oSt.ib ?_
  intro T7 v7 h7 H7 q7
  obtain ⟨rfl, rfl⟩ := q7
  show oG p e below s n0 _ _ _ _ (T7.setTop (mkF m 88 #[.val (.int p1), .val (.int p2), .val (.int p3), .val (.int p4), .val (.int p5), .val (.int p6), .val (.int (1 : Int32)), .val (.int (0 : Int32)), .val (.ref a8), .val (.ref r1), .val (.ref r3), .val (.int (1 : Int32))] [(.int (1 : Int32))]))
  refine o_iload H7 rfl at_88 rfl ?_
  refine o_icmp_t H7 at_90 (by decide) (pt := 95) (by decide) (by decide) ?_
  refine o_aload H7 rfl rfl at_95 rfl ?_
  refine o_aload H7 rfl rfl at_97 rfl ?_
  refine o_iload H7 rfl at_99 rfl ?_
  refine o_iload H7 rfl at_101 rfl ?_
  refine o_iconst H7 (0 : Int32) rfl at_103 rfl ?_
  refine o_static H7 [(.ref r3), (.ref a8), (.int (0 : Int32)), (.int (1 : Int32)), (.int (0 : Int32))] [] (rm8 l Z a0 hw r3 a8 (0 : Int32) (1 : Int32) (0 : Int32) (fun vm => IB Z vm []) oSt.ib ([own_low x0] : List Int32) [(.int x0), (.int x1), (.int x2), (.int x3)] 0 0 x0 cs fm h3 n0 H7.le (WW.ext (o_kext k4)) T_3 (Nat.le_of_ble_eq_true rfl) (AV1.ext (o_kext k4)) (by decide) (by decide) rfl (by decide) rfl hx0) (w46 hw) (w47 hw) (w5 hw) (w48 hw) (by decide) (lenOf pd8 rfl) rfl rfl (by decide) (Nat.le_of_ble_eq_true rfl) (by decide) (by decide) at_104 rfl (fun _ q => q) oSt.ib ?_
  intro T8 v8 h8 H8 q8
  obtain ⟨rfl, rfl⟩ := q8
  show oG p e below s n0 _ _ _ _ (T8.setTop (mkF m 107 #[.val (.int p1), .val (.int p2), .val (.int p3), .val (.int p4), .val (.int p5), .val (.int p6), .val (.int (1 : Int32)), .val (.int (0 : Int32)), .val (.ref a8), .val (.ref r1), .val (.ref r3), .val (.int (1 : Int32))] [(.int (1 : Int32))]))
  refine o_if_f H8 at_107 (by decide) rfl ?_
  refine o_aload H8 rfl rfl at_110 rfl ?_
  refine o_aload H8 rfl rfl at_112 rfl ?_
  refine o_iload H8 rfl at_114 rfl ?_
  refine o_iload H8 rfl at_116 rfl ?_
  refine o_iconst H8 (1 : Int32) rfl at_118 rfl ?_
  refine o_static H8 [(.ref r3), (.ref a8), (.int (0 : Int32)), (.int (1 : Int32)), (.int (1 : Int32))] [] (rm8_N l Z a0 hw r3 a8 (0 : Int32) (1 : Int32) (1 : Int32) (fun vm => IB Z vm []) oSt.ib  h3 n0 H8.le (by decide)) (w46 hw) (w47 hw) (w5 hw) (w48 hw) (by decide) (lenOf pd8 rfl) rfl rfl (by decide) (Nat.le_of_ble_eq_true rfl) (by decide) (by decide) at_119 rfl (fun _ q => q) oSt.ib ?_
  intro T9 v9 h9 H9 q9
  obtain ⟨rfl, rfl⟩ := q9
  show oG p e below s n0 _ _ _ _ (T9.setTop (mkF m 122 #[.val (.int p1), .val (.int p2), .val (.int p3), .val (.int p4), .val (.int p5), .val (.int p6), .val (.int (1 : Int32)), .val (.int (0 : Int32)), .val (.ref a8), .val (.ref r1), .val (.ref r3), .val (.int (1 : Int32))] [(.int (1 : Int32))]))
  refine o_if_f H9 at_122 (by decide) rfl ?_
  refine o_aload H9 rfl rfl at_125 rfl ?_
  refine o_aload H9 rfl rfl at_127 rfl ?_
  refine o_iload H9 rfl at_129 rfl ?_
  refine o_iload H9 rfl at_131 rfl ?_
  refine o_iconst H9 (2 : Int32) rfl at_133 rfl ?_
  refine o_static H9 [(.ref r3), (.ref a8), (.int (0 : Int32)), (.int (1 : Int32)), (.int (2 : Int32))] [] (rm8_N l Z a0 hw r3 a8 (0 : Int32) (1 : Int32) (2 : Int32) (fun vm => IB Z vm []) oSt.ib  h3 n0 H9.le (by decide)) (w46 hw) (w47 hw) (w5 hw) (w48 hw) (by decide) (lenOf pd8 rfl) rfl rfl (by decide) (Nat.le_of_ble_eq_true rfl) (by decide) (by decide) at_134 rfl (fun _ q => q) oSt.ib ?_
  intro T10 v10 h10 H10 q10
  obtain ⟨rfl, rfl⟩ := q10
  show oG p e below s n0 _ _ _ _ (T10.setTop (mkF m 137 #[.val (.int p1), .val (.int p2), .val (.int p3), .val (.int p4), .val (.int p5), .val (.int p6), .val (.int (1 : Int32)), .val (.int (0 : Int32)), .val (.ref a8), .val (.ref r1), .val (.ref r3), .val (.int (1 : Int32))] [(.int (1 : Int32))]))
  refine o_if_f H10 at_137 (by decide) rfl ?_
  refine o_aload H10 rfl rfl at_140 rfl ?_
  refine o_aload H10 rfl rfl at_142 rfl ?_
  refine o_iload H10 rfl at_144 rfl ?_
  refine o_iload H10 rfl at_146 rfl ?_
  refine o_iconst H10 (3 : Int32) rfl at_148 rfl ?_
  refine o_static H10 [(.ref r3), (.ref a8), (.int (0 : Int32)), (.int (1 : Int32)), (.int (3 : Int32))] [] (rm8_N l Z a0 hw r3 a8 (0 : Int32) (1 : Int32) (3 : Int32) (fun vm => IB Z vm []) oSt.ib  h3 n0 H10.le (by decide)) (w46 hw) (w47 hw) (w5 hw) (w48 hw) (by decide) (lenOf pd8 rfl) rfl rfl (by decide) (Nat.le_of_ble_eq_true rfl) (by decide) (by decide) at_149 rfl (fun _ q => q) oSt.ib ?_
  intro T11 v11 h11 H11 q11
  obtain ⟨rfl, rfl⟩ := q11
  show oG p e below s n0 _ _ _ _ (T11.setTop (mkF m 152 #[.val (.int p1), .val (.int p2), .val (.int p3), .val (.int p4), .val (.int p5), .val (.int p6), .val (.int (1 : Int32)), .val (.int (0 : Int32)), .val (.ref a8), .val (.ref r1), .val (.ref r3), .val (.int (1 : Int32))] [(.int (1 : Int32))]))
  refine o_if_f H11 at_152 (by decide) rfl ?_
  refine o_iconst H11 (1 : Int32) rfl at_155 rfl ?_
  refine o_goto H11 at_156 (pt := 160) (by decide) (by decide) ?_
  exact o_nreturn H11 .boolean rfl (by simp) at_160 oSt.ib (fun _ _ => trivial) (by decide) (by decide) rfl
set_option maxRecDepth 65536 in
set_option maxHeartbeats 40000000 in
theorem rmL_1_1 (l : Launch) (Z : State) (a0 : Array Value) (hw : ∀ d ∈ tables_1, d.before a0 Z = true) (p1 p2 p3 p4 p5 p6 x0 x1 x2 x3 : Int32) (a8 : Addr) (cs : Int32) (fm : Value) (h0 : Heap) (n0 : Nat) (AV1 : oA .char Z h0 a8 [(.int x0), (.int x1), (.int x2), (.int x3)]) (hx0 : own_chr x0) (hx1 : own_chr x1) (hx2 : own_chr x2) (hx3 : own_chr x3) (WW : own_W Z h0 cs fm) (hh : Jvm.Lit.constHeld Z "java/lang/String" 7) (hcw : Jvm.Lit.compactW.before a0 Z = true) (E0 : Ext Z.heap h0) (p : Program) (e : Env) (s : State) (m : MethodId) (below : List Frame) (meth : Method) (c : Code) (T : State) (H : oH p l e room_1 s m #[.int p1, .int p2, .int p3, .int p4, .int p5, .int p6] below meth c code maxLocals x ret Z n0 T h0 1 4 false (fun vm => IB Z vm [])) :
    oG p e below s n0 32 1216 (fun _ _ => True) (fun v h => v = some (.int 1)) (T.setTop (mkF m 58 #[.val (.int p1), .val (.int p2), .val (.int p3), .val (.int p4), .val (.int p5), .val (.int p6), .val (.int (1 : Int32)), .val (.int (1 : Int32)), .val (.ref a8), .unset, .unset, .unset] [])) := by
  refine o_iload H rfl at_58 rfl ?_
  refine o_aload H rfl rfl at_60 rfl ?_
  refine o_static H [(.int (1 : Int32)), (.ref a8)] [] (rm1_1 l Z a0 hw a8 (fun vm => IB Z vm []) oSt.ib cs fm x0 x1 x2 x3 h0 n0 H.le AV1 hx0 hx1 hx2 hx3 WW) (w3 hw) (w4 hw) (w5 hw) (w6 hw) (by decide) (lenOf pd1 rfl) rfl rfl (by decide) (Nat.le_of_ble_eq_true rfl) (by decide) (by decide) at_62 rfl (fun _ q => q) oSt.ib ?_
  intro T1 v1 h1 H1 q1
  obtain ⟨r1, rfl, K1, T_1⟩ := q1
  have k2 := (Keep.refl h0 []).trans K1 all0
  show oG p e below s n0 _ _ _ _ (T1.setTop (mkF m 65 #[.val (.int p1), .val (.int p2), .val (.int p3), .val (.int p4), .val (.int p5), .val (.int p6), .val (.int (1 : Int32)), .val (.int (1 : Int32)), .val (.ref a8), .unset, .unset, .unset] [(.ref r1)]))
  refine o_astore H1 (L' := #[.val (.int p1), .val (.int p2), .val (.int p3), .val (.int p4), .val (.int p5), .val (.int p6), .val (.int (1 : Int32)), .val (.int (1 : Int32)), .val (.ref a8), .val (.ref r1), .unset, .unset]) rfl rfl at_65 rfl ?_
  refine o_aload H1 rfl rfl at_67 rfl ?_
  refine o_iload H1 rfl at_69 rfl ?_
  refine o_static H1 [(.ref r1), (.int (1 : Int32))] [] (rm5_0 l Z a0 hw r1 (1 : Int32) (fun vm => IB Z vm []) oSt.ib ([x0] : List Int32) 1 cs fm  h1 n0 H1.le (WW.ext (o_kext k2)) T_1 (Nat.le_of_ble_eq_true rfl) (show (1 : Nat).toInt32 - (1 : Int32) = (0 : Int32) by decide) (by decide) (by decide)  hh hcw (Or.inl ⟨fun _ q => q, o_etrans E0 (o_kext k2)⟩)) (w28 hw) (w29 hw) (w30 hw) (w31 hw) (by decide) (lenOf pd5 rfl) rfl rfl (by decide) (Nat.le_of_ble_eq_true rfl) (by decide) (by decide) at_71 rfl (fun _ q => q) oSt.ib ?_
  intro T3 v3 h3 H3 q3
  obtain ⟨r3, rfl, K3, T_3⟩ := q3
  have k4 := k2.trans K3 all0
  have f5 := (T_1).exa.keep K3
  have f6 := T_1.ext (o_kext K3)
  show oG p e below s n0 _ _ _ _ (T3.setTop (mkF m 74 #[.val (.int p1), .val (.int p2), .val (.int p3), .val (.int p4), .val (.int p5), .val (.int p6), .val (.int (1 : Int32)), .val (.int (1 : Int32)), .val (.ref a8), .val (.ref r1), .unset, .unset] [(.ref r3)]))
  refine o_astore H3 (L' := #[.val (.int p1), .val (.int p2), .val (.int p3), .val (.int p4), .val (.int p5), .val (.int p6), .val (.int (1 : Int32)), .val (.int (1 : Int32)), .val (.ref a8), .val (.ref r1), .val (.ref r3), .unset]) rfl rfl at_74 rfl ?_
  refine o_iload H3 rfl at_76 rfl ?_
  refine o_iload H3 rfl at_78 rfl ?_
  refine o_isub H3 at_80 rfl ?_
  refine o_fold (0 : Int32) (by decide) ?_
  refine o_istore H3 (L' := #[.val (.int p1), .val (.int p2), .val (.int p3), .val (.int p4), .val (.int p5), .val (.int p6), .val (.int (1 : Int32)), .val (.int (1 : Int32)), .val (.ref a8), .val (.ref r1), .val (.ref r3), .val (.int (0 : Int32))]) rfl at_81 rfl ?_
  refine o_aload H3 rfl rfl at_83 rfl ?_
  refine o_virtual H3 [] [] ((rmLen l Z a0 hw r3 (fun vm => ∃ ab : Addr × Addr, own_LF Z h3 ab.1 ab.2 ∧ Lit (Z.setVm vm) "java/lang/String" 7 ab.1) own_lj ([] : List Int32) cs fm h3 n0 H3.le (WW.ext (o_kext k4)) T_3 (Nat.le_of_ble_eq_true rfl)).mono (fun v h q => (⟨q.1, q.2⟩ : v = some (.int (0 : Int32)) ∧ h3 = h))) (T_3).exa (w45 hw) (w33 hw) (o_nf (w35 hw)) (w35 hw) (w34 hw) (w9 hw) (w36 hw) (by decide) (lenOf pd6 rfl) rfl rfl (by decide) (Nat.le_of_ble_eq_true rfl) (by decide) (by decide) at_85 rfl (fun _ q => q) own_lj ?_
  intro T7 v7 h7 H7 q7
  obtain ⟨rfl, rfl⟩ := q7
  show oG p e below s n0 _ _ _ _ (T7.setTop (mkF m 88 #[.val (.int p1), .val (.int p2), .val (.int p3), .val (.int p4), .val (.int p5), .val (.int p6), .val (.int (1 : Int32)), .val (.int (1 : Int32)), .val (.ref a8), .val (.ref r1), .val (.ref r3), .val (.int (0 : Int32))] [(.int (0 : Int32))]))
  refine o_iload H7 rfl at_88 rfl ?_
  refine o_icmp_t H7 at_90 (by decide) (pt := 95) (by decide) (by decide) ?_
  refine o_aload H7 rfl rfl at_95 rfl ?_
  refine o_aload H7 rfl rfl at_97 rfl ?_
  refine o_iload H7 rfl at_99 rfl ?_
  refine o_iload H7 rfl at_101 rfl ?_
  refine o_iconst H7 (0 : Int32) rfl at_103 rfl ?_
  refine o_static H7 [(.ref r3), (.ref a8), (.int (1 : Int32)), (.int (0 : Int32)), (.int (0 : Int32))] [] (rm8_N l Z a0 hw r3 a8 (1 : Int32) (0 : Int32) (0 : Int32) (fun vm => ∃ ab : Addr × Addr, own_LF Z h3 ab.1 ab.2 ∧ Lit (Z.setVm vm) "java/lang/String" 7 ab.1) own_lj  h3 n0 H7.le (by decide)) (w46 hw) (w47 hw) (w5 hw) (w48 hw) (by decide) (lenOf pd8 rfl) rfl rfl (by decide) (Nat.le_of_ble_eq_true rfl) (by decide) (by decide) at_104 rfl (fun _ q => q) own_lj ?_
  intro T8 v8 h8 H8 q8
  obtain ⟨rfl, rfl⟩ := q8
  show oG p e below s n0 _ _ _ _ (T8.setTop (mkF m 107 #[.val (.int p1), .val (.int p2), .val (.int p3), .val (.int p4), .val (.int p5), .val (.int p6), .val (.int (1 : Int32)), .val (.int (1 : Int32)), .val (.ref a8), .val (.ref r1), .val (.ref r3), .val (.int (0 : Int32))] [(.int (1 : Int32))]))
  refine o_if_f H8 at_107 (by decide) rfl ?_
  refine o_aload H8 rfl rfl at_110 rfl ?_
  refine o_aload H8 rfl rfl at_112 rfl ?_
  refine o_iload H8 rfl at_114 rfl ?_
  refine o_iload H8 rfl at_116 rfl ?_
  refine o_iconst H8 (1 : Int32) rfl at_118 rfl ?_
  refine o_static H8 [(.ref r3), (.ref a8), (.int (1 : Int32)), (.int (0 : Int32)), (.int (1 : Int32))] [] (rm8_N l Z a0 hw r3 a8 (1 : Int32) (0 : Int32) (1 : Int32) (fun vm => ∃ ab : Addr × Addr, own_LF Z h3 ab.1 ab.2 ∧ Lit (Z.setVm vm) "java/lang/String" 7 ab.1) own_lj  h3 n0 H8.le (by decide)) (w46 hw) (w47 hw) (w5 hw) (w48 hw) (by decide) (lenOf pd8 rfl) rfl rfl (by decide) (Nat.le_of_ble_eq_true rfl) (by decide) (by decide) at_119 rfl (fun _ q => q) own_lj ?_
  intro T9 v9 h9 H9 q9
  obtain ⟨rfl, rfl⟩ := q9
  show oG p e below s n0 _ _ _ _ (T9.setTop (mkF m 122 #[.val (.int p1), .val (.int p2), .val (.int p3), .val (.int p4), .val (.int p5), .val (.int p6), .val (.int (1 : Int32)), .val (.int (1 : Int32)), .val (.ref a8), .val (.ref r1), .val (.ref r3), .val (.int (0 : Int32))] [(.int (1 : Int32))]))
  refine o_if_f H9 at_122 (by decide) rfl ?_
  refine o_aload H9 rfl rfl at_125 rfl ?_
  refine o_aload H9 rfl rfl at_127 rfl ?_
  refine o_iload H9 rfl at_129 rfl ?_
  refine o_iload H9 rfl at_131 rfl ?_
  refine o_iconst H9 (2 : Int32) rfl at_133 rfl ?_
  refine o_static H9 [(.ref r3), (.ref a8), (.int (1 : Int32)), (.int (0 : Int32)), (.int (2 : Int32))] [] (rm8_N l Z a0 hw r3 a8 (1 : Int32) (0 : Int32) (2 : Int32) (fun vm => ∃ ab : Addr × Addr, own_LF Z h3 ab.1 ab.2 ∧ Lit (Z.setVm vm) "java/lang/String" 7 ab.1) own_lj  h3 n0 H9.le (by decide)) (w46 hw) (w47 hw) (w5 hw) (w48 hw) (by decide) (lenOf pd8 rfl) rfl rfl (by decide) (Nat.le_of_ble_eq_true rfl) (by decide) (by decide) at_134 rfl (fun _ q => q) own_lj ?_
  intro T10 v10 h10 H10 q10
  obtain ⟨rfl, rfl⟩ := q10
  show oG p e below s n0 _ _ _ _ (T10.setTop (mkF m 137 #[.val (.int p1), .val (.int p2), .val (.int p3), .val (.int p4), .val (.int p5), .val (.int p6), .val (.int (1 : Int32)), .val (.int (1 : Int32)), .val (.ref a8), .val (.ref r1), .val (.ref r3), .val (.int (0 : Int32))] [(.int (1 : Int32))]))
  refine o_if_f H10 at_137 (by decide) rfl ?_
  refine o_aload H10 rfl rfl at_140 rfl ?_
  refine o_aload H10 rfl rfl at_142 rfl ?_
  refine o_iload H10 rfl at_144 rfl ?_
  refine o_iload H10 rfl at_146 rfl ?_
  refine o_iconst H10 (3 : Int32) rfl at_148 rfl ?_
  refine o_static H10 [(.ref r3), (.ref a8), (.int (1 : Int32)), (.int (0 : Int32)), (.int (3 : Int32))] [] (rm8_N l Z a0 hw r3 a8 (1 : Int32) (0 : Int32) (3 : Int32) (fun vm => ∃ ab : Addr × Addr, own_LF Z h3 ab.1 ab.2 ∧ Lit (Z.setVm vm) "java/lang/String" 7 ab.1) own_lj  h3 n0 H10.le (by decide)) (w46 hw) (w47 hw) (w5 hw) (w48 hw) (by decide) (lenOf pd8 rfl) rfl rfl (by decide) (Nat.le_of_ble_eq_true rfl) (by decide) (by decide) at_149 rfl (fun _ q => q) own_lj ?_
  intro T11 v11 h11 H11 q11
  obtain ⟨rfl, rfl⟩ := q11
  show oG p e below s n0 _ _ _ _ (T11.setTop (mkF m 152 #[.val (.int p1), .val (.int p2), .val (.int p3), .val (.int p4), .val (.int p5), .val (.int p6), .val (.int (1 : Int32)), .val (.int (1 : Int32)), .val (.ref a8), .val (.ref r1), .val (.ref r3), .val (.int (0 : Int32))] [(.int (1 : Int32))]))
  refine o_if_f H11 at_152 (by decide) rfl ?_
  refine o_iconst H11 (1 : Int32) rfl at_155 rfl ?_
  refine o_goto H11 at_156 (pt := 160) (by decide) (by decide) ?_
  exact o_nreturn H11 .boolean rfl (by simp) at_160 own_lj (fun _ _ => trivial) (by decide) (by decide) rfl
set_option maxRecDepth 65536 in
set_option maxHeartbeats 40000000 in
theorem rmL_2_0 (l : Launch) (Z : State) (a0 : Array Value) (hw : ∀ d ∈ tables_1, d.before a0 Z = true) (p1 p2 p3 p4 p5 p6 x0 x1 x2 x3 : Int32) (a8 : Addr) (cs : Int32) (fm : Value) (h0 : Heap) (n0 : Nat) (AV1 : oA .char Z h0 a8 [(.int x0), (.int x1), (.int x2), (.int x3)]) (hx0 : own_chr x0) (hx1 : own_chr x1) (hx2 : own_chr x2) (hx3 : own_chr x3) (WW : own_W Z h0 cs fm) (hh : Jvm.Lit.constHeld Z "java/lang/String" 7) (hcw : Jvm.Lit.compactW.before a0 Z = true) (E0 : Ext Z.heap h0) (p : Program) (e : Env) (s : State) (m : MethodId) (below : List Frame) (meth : Method) (c : Code) (T : State) (H : oH p l e room_1 s m #[.int p1, .int p2, .int p3, .int p4, .int p5, .int p6] below meth c code maxLocals x ret Z n0 T h0 1 4 false (fun vm => IB Z vm [])) :
    oG p e below s n0 32 1216 (fun _ _ => True) (fun v h => v = some (.int 1)) (T.setTop (mkF m 58 #[.val (.int p1), .val (.int p2), .val (.int p3), .val (.int p4), .val (.int p5), .val (.int p6), .val (.int (2 : Int32)), .val (.int (0 : Int32)), .val (.ref a8), .unset, .unset, .unset] [])) := by
  refine o_iload H rfl at_58 rfl ?_
  refine o_aload H rfl rfl at_60 rfl ?_
  refine o_static H [(.int (2 : Int32)), (.ref a8)] [] (rm1_2 l Z a0 hw a8 (fun vm => IB Z vm []) oSt.ib cs fm x0 x1 x2 x3 h0 n0 H.le AV1 hx0 hx1 hx2 hx3 WW) (w3 hw) (w4 hw) (w5 hw) (w6 hw) (by decide) (lenOf pd1 rfl) rfl rfl (by decide) (Nat.le_of_ble_eq_true rfl) (by decide) (by decide) at_62 rfl (fun _ q => q) oSt.ib ?_
  intro T1 v1 h1 H1 q1
  obtain ⟨r1, rfl, K1, T_1⟩ := q1
  have k2 := (Keep.refl h0 []).trans K1 all0
  show oG p e below s n0 _ _ _ _ (T1.setTop (mkF m 65 #[.val (.int p1), .val (.int p2), .val (.int p3), .val (.int p4), .val (.int p5), .val (.int p6), .val (.int (2 : Int32)), .val (.int (0 : Int32)), .val (.ref a8), .unset, .unset, .unset] [(.ref r1)]))
  refine o_astore H1 (L' := #[.val (.int p1), .val (.int p2), .val (.int p3), .val (.int p4), .val (.int p5), .val (.int p6), .val (.int (2 : Int32)), .val (.int (0 : Int32)), .val (.ref a8), .val (.ref r1), .unset, .unset]) rfl rfl at_65 rfl ?_
  refine o_aload H1 rfl rfl at_67 rfl ?_
  refine o_iload H1 rfl at_69 rfl ?_
  refine o_static H1 [(.ref r1), (.int (0 : Int32))] [] (rm5_2 l Z a0 hw r1 (0 : Int32) (fun vm => IB Z vm []) oSt.ib ([x0, x1] : List Int32) 0 cs fm x0 x1 h1 n0 H1.le (WW.ext (o_kext k2)) T_1 (Nat.le_of_ble_eq_true rfl) (show (2 : Nat).toInt32 - (0 : Int32) = (2 : Int32) by decide) (by decide) (by decide) rfl hx0 rfl hx1) (w28 hw) (w29 hw) (w30 hw) (w31 hw) (by decide) (lenOf pd5 rfl) rfl rfl (by decide) (Nat.le_of_ble_eq_true rfl) (by decide) (by decide) at_71 rfl (fun _ q => q) oSt.ib ?_
  intro T3 v3 h3 H3 q3
  obtain ⟨r3, rfl, K3, T_3⟩ := q3
  have k4 := k2.trans K3 all0
  have f5 := (T_1).exa.keep K3
  have f6 := T_1.ext (o_kext K3)
  show oG p e below s n0 _ _ _ _ (T3.setTop (mkF m 74 #[.val (.int p1), .val (.int p2), .val (.int p3), .val (.int p4), .val (.int p5), .val (.int p6), .val (.int (2 : Int32)), .val (.int (0 : Int32)), .val (.ref a8), .val (.ref r1), .unset, .unset] [(.ref r3)]))
  refine o_astore H3 (L' := #[.val (.int p1), .val (.int p2), .val (.int p3), .val (.int p4), .val (.int p5), .val (.int p6), .val (.int (2 : Int32)), .val (.int (0 : Int32)), .val (.ref a8), .val (.ref r1), .val (.ref r3), .unset]) rfl rfl at_74 rfl ?_
  refine o_iload H3 rfl at_76 rfl ?_
  refine o_iload H3 rfl at_78 rfl ?_
  refine o_isub H3 at_80 rfl ?_
  refine o_fold (2 : Int32) (by decide) ?_
  refine o_istore H3 (L' := #[.val (.int p1), .val (.int p2), .val (.int p3), .val (.int p4), .val (.int p5), .val (.int p6), .val (.int (2 : Int32)), .val (.int (0 : Int32)), .val (.ref a8), .val (.ref r1), .val (.ref r3), .val (.int (2 : Int32))]) rfl at_81 rfl ?_
  refine o_aload H3 rfl rfl at_83 rfl ?_
  refine o_virtual H3 [] [] ((rmLen l Z a0 hw r3 (fun vm => IB Z vm []) oSt.ib ([own_low x0, own_low x1] : List Int32) cs fm h3 n0 H3.le (WW.ext (o_kext k4)) T_3 (Nat.le_of_ble_eq_true rfl)).mono (fun v h q => (⟨q.1, q.2⟩ : v = some (.int (2 : Int32)) ∧ h3 = h))) (T_3).exa (w45 hw) (w33 hw) (o_nf (w35 hw)) (w35 hw) (w34 hw) (w9 hw) (w36 hw) (by decide) (lenOf pd6 rfl) rfl rfl (by decide) (Nat.le_of_ble_eq_true rfl) (by decide) (by decide) at_85 rfl (fun _ q => q) oSt.ib ?_
  intro T7 v7 h7 H7 q7
  obtain ⟨rfl, rfl⟩ := q7
  show oG p e below s n0 _ _ _ _ (T7.setTop (mkF m 88 #[.val (.int p1), .val (.int p2), .val (.int p3), .val (.int p4), .val (.int p5), .val (.int p6), .val (.int (2 : Int32)), .val (.int (0 : Int32)), .val (.ref a8), .val (.ref r1), .val (.ref r3), .val (.int (2 : Int32))] [(.int (2 : Int32))]))
  refine o_iload H7 rfl at_88 rfl ?_
  refine o_icmp_t H7 at_90 (by decide) (pt := 95) (by decide) (by decide) ?_
  refine o_aload H7 rfl rfl at_95 rfl ?_
  refine o_aload H7 rfl rfl at_97 rfl ?_
  refine o_iload H7 rfl at_99 rfl ?_
  refine o_iload H7 rfl at_101 rfl ?_
  refine o_iconst H7 (0 : Int32) rfl at_103 rfl ?_
  refine o_static H7 [(.ref r3), (.ref a8), (.int (0 : Int32)), (.int (2 : Int32)), (.int (0 : Int32))] [] (rm8 l Z a0 hw r3 a8 (0 : Int32) (2 : Int32) (0 : Int32) (fun vm => IB Z vm []) oSt.ib ([own_low x0, own_low x1] : List Int32) [(.int x0), (.int x1), (.int x2), (.int x3)] 0 0 x0 cs fm h3 n0 H7.le (WW.ext (o_kext k4)) T_3 (Nat.le_of_ble_eq_true rfl) (AV1.ext (o_kext k4)) (by decide) (by decide) rfl (by decide) rfl hx0) (w46 hw) (w47 hw) (w5 hw) (w48 hw) (by decide) (lenOf pd8 rfl) rfl rfl (by decide) (Nat.le_of_ble_eq_true rfl) (by decide) (by decide) at_104 rfl (fun _ q => q) oSt.ib ?_
  intro T8 v8 h8 H8 q8
  obtain ⟨rfl, rfl⟩ := q8
  show oG p e below s n0 _ _ _ _ (T8.setTop (mkF m 107 #[.val (.int p1), .val (.int p2), .val (.int p3), .val (.int p4), .val (.int p5), .val (.int p6), .val (.int (2 : Int32)), .val (.int (0 : Int32)), .val (.ref a8), .val (.ref r1), .val (.ref r3), .val (.int (2 : Int32))] [(.int (1 : Int32))]))
  refine o_if_f H8 at_107 (by decide) rfl ?_
  refine o_aload H8 rfl rfl at_110 rfl ?_
  refine o_aload H8 rfl rfl at_112 rfl ?_
  refine o_iload H8 rfl at_114 rfl ?_
  refine o_iload H8 rfl at_116 rfl ?_
  refine o_iconst H8 (1 : Int32) rfl at_118 rfl ?_
  refine o_static H8 [(.ref r3), (.ref a8), (.int (0 : Int32)), (.int (2 : Int32)), (.int (1 : Int32))] [] (rm8 l Z a0 hw r3 a8 (0 : Int32) (2 : Int32) (1 : Int32) (fun vm => IB Z vm []) oSt.ib ([own_low x0, own_low x1] : List Int32) [(.int x0), (.int x1), (.int x2), (.int x3)] 1 1 x1 cs fm h3 n0 H8.le (WW.ext (o_kext k4)) T_3 (Nat.le_of_ble_eq_true rfl) (AV1.ext (o_kext k4)) (by decide) (by decide) rfl (by decide) rfl hx1) (w46 hw) (w47 hw) (w5 hw) (w48 hw) (by decide) (lenOf pd8 rfl) rfl rfl (by decide) (Nat.le_of_ble_eq_true rfl) (by decide) (by decide) at_119 rfl (fun _ q => q) oSt.ib ?_
  intro T9 v9 h9 H9 q9
  obtain ⟨rfl, rfl⟩ := q9
  show oG p e below s n0 _ _ _ _ (T9.setTop (mkF m 122 #[.val (.int p1), .val (.int p2), .val (.int p3), .val (.int p4), .val (.int p5), .val (.int p6), .val (.int (2 : Int32)), .val (.int (0 : Int32)), .val (.ref a8), .val (.ref r1), .val (.ref r3), .val (.int (2 : Int32))] [(.int (1 : Int32))]))
  refine o_if_f H9 at_122 (by decide) rfl ?_
  refine o_aload H9 rfl rfl at_125 rfl ?_
  refine o_aload H9 rfl rfl at_127 rfl ?_
  refine o_iload H9 rfl at_129 rfl ?_
  refine o_iload H9 rfl at_131 rfl ?_
  refine o_iconst H9 (2 : Int32) rfl at_133 rfl ?_
  refine o_static H9 [(.ref r3), (.ref a8), (.int (0 : Int32)), (.int (2 : Int32)), (.int (2 : Int32))] [] (rm8_N l Z a0 hw r3 a8 (0 : Int32) (2 : Int32) (2 : Int32) (fun vm => IB Z vm []) oSt.ib  h3 n0 H9.le (by decide)) (w46 hw) (w47 hw) (w5 hw) (w48 hw) (by decide) (lenOf pd8 rfl) rfl rfl (by decide) (Nat.le_of_ble_eq_true rfl) (by decide) (by decide) at_134 rfl (fun _ q => q) oSt.ib ?_
  intro T10 v10 h10 H10 q10
  obtain ⟨rfl, rfl⟩ := q10
  show oG p e below s n0 _ _ _ _ (T10.setTop (mkF m 137 #[.val (.int p1), .val (.int p2), .val (.int p3), .val (.int p4), .val (.int p5), .val (.int p6), .val (.int (2 : Int32)), .val (.int (0 : Int32)), .val (.ref a8), .val (.ref r1), .val (.ref r3), .val (.int (2 : Int32))] [(.int (1 : Int32))]))
  refine o_if_f H10 at_137 (by decide) rfl ?_
  refine o_aload H10 rfl rfl at_140 rfl ?_
  refine o_aload H10 rfl rfl at_142 rfl ?_
  refine o_iload H10 rfl at_144 rfl ?_
  refine o_iload H10 rfl at_146 rfl ?_
  refine o_iconst H10 (3 : Int32) rfl at_148 rfl ?_
  refine o_static H10 [(.ref r3), (.ref a8), (.int (0 : Int32)), (.int (2 : Int32)), (.int (3 : Int32))] [] (rm8_N l Z a0 hw r3 a8 (0 : Int32) (2 : Int32) (3 : Int32) (fun vm => IB Z vm []) oSt.ib  h3 n0 H10.le (by decide)) (w46 hw) (w47 hw) (w5 hw) (w48 hw) (by decide) (lenOf pd8 rfl) rfl rfl (by decide) (Nat.le_of_ble_eq_true rfl) (by decide) (by decide) at_149 rfl (fun _ q => q) oSt.ib ?_
  intro T11 v11 h11 H11 q11
  obtain ⟨rfl, rfl⟩ := q11
  show oG p e below s n0 _ _ _ _ (T11.setTop (mkF m 152 #[.val (.int p1), .val (.int p2), .val (.int p3), .val (.int p4), .val (.int p5), .val (.int p6), .val (.int (2 : Int32)), .val (.int (0 : Int32)), .val (.ref a8), .val (.ref r1), .val (.ref r3), .val (.int (2 : Int32))] [(.int (1 : Int32))]))
  refine o_if_f H11 at_152 (by decide) rfl ?_
  refine o_iconst H11 (1 : Int32) rfl at_155 rfl ?_
  refine o_goto H11 at_156 (pt := 160) (by decide) (by decide) ?_
  exact o_nreturn H11 .boolean rfl (by simp) at_160 oSt.ib (fun _ _ => trivial) (by decide) (by decide) rfl
set_option maxRecDepth 65536 in
set_option maxHeartbeats 40000000 in
theorem rmL_2_1 (l : Launch) (Z : State) (a0 : Array Value) (hw : ∀ d ∈ tables_1, d.before a0 Z = true) (p1 p2 p3 p4 p5 p6 x0 x1 x2 x3 : Int32) (a8 : Addr) (cs : Int32) (fm : Value) (h0 : Heap) (n0 : Nat) (AV1 : oA .char Z h0 a8 [(.int x0), (.int x1), (.int x2), (.int x3)]) (hx0 : own_chr x0) (hx1 : own_chr x1) (hx2 : own_chr x2) (hx3 : own_chr x3) (WW : own_W Z h0 cs fm) (hh : Jvm.Lit.constHeld Z "java/lang/String" 7) (hcw : Jvm.Lit.compactW.before a0 Z = true) (E0 : Ext Z.heap h0) (p : Program) (e : Env) (s : State) (m : MethodId) (below : List Frame) (meth : Method) (c : Code) (T : State) (H : oH p l e room_1 s m #[.int p1, .int p2, .int p3, .int p4, .int p5, .int p6] below meth c code maxLocals x ret Z n0 T h0 1 4 false (fun vm => IB Z vm [])) :
    oG p e below s n0 32 1216 (fun _ _ => True) (fun v h => v = some (.int 1)) (T.setTop (mkF m 58 #[.val (.int p1), .val (.int p2), .val (.int p3), .val (.int p4), .val (.int p5), .val (.int p6), .val (.int (2 : Int32)), .val (.int (1 : Int32)), .val (.ref a8), .unset, .unset, .unset] [])) := by
  refine o_iload H rfl at_58 rfl ?_
  refine o_aload H rfl rfl at_60 rfl ?_
  refine o_static H [(.int (2 : Int32)), (.ref a8)] [] (rm1_2 l Z a0 hw a8 (fun vm => IB Z vm []) oSt.ib cs fm x0 x1 x2 x3 h0 n0 H.le AV1 hx0 hx1 hx2 hx3 WW) (w3 hw) (w4 hw) (w5 hw) (w6 hw) (by decide) (lenOf pd1 rfl) rfl rfl (by decide) (Nat.le_of_ble_eq_true rfl) (by decide) (by decide) at_62 rfl (fun _ q => q) oSt.ib ?_
  intro T1 v1 h1 H1 q1
  obtain ⟨r1, rfl, K1, T_1⟩ := q1
  have k2 := (Keep.refl h0 []).trans K1 all0
  show oG p e below s n0 _ _ _ _ (T1.setTop (mkF m 65 #[.val (.int p1), .val (.int p2), .val (.int p3), .val (.int p4), .val (.int p5), .val (.int p6), .val (.int (2 : Int32)), .val (.int (1 : Int32)), .val (.ref a8), .unset, .unset, .unset] [(.ref r1)]))
  refine o_astore H1 (L' := #[.val (.int p1), .val (.int p2), .val (.int p3), .val (.int p4), .val (.int p5), .val (.int p6), .val (.int (2 : Int32)), .val (.int (1 : Int32)), .val (.ref a8), .val (.ref r1), .unset, .unset]) rfl rfl at_65 rfl ?_
  refine o_aload H1 rfl rfl at_67 rfl ?_
  refine o_iload H1 rfl at_69 rfl ?_
  refine o_static H1 [(.ref r1), (.int (1 : Int32))] [] (rm5_1 l Z a0 hw r1 (1 : Int32) (fun vm => IB Z vm []) oSt.ib ([x0, x1] : List Int32) 1 cs fm x1 h1 n0 H1.le (WW.ext (o_kext k2)) T_1 (Nat.le_of_ble_eq_true rfl) (show (2 : Nat).toInt32 - (1 : Int32) = (1 : Int32) by decide) (by decide) (by decide) rfl hx1) (w28 hw) (w29 hw) (w30 hw) (w31 hw) (by decide) (lenOf pd5 rfl) rfl rfl (by decide) (Nat.le_of_ble_eq_true rfl) (by decide) (by decide) at_71 rfl (fun _ q => q) oSt.ib ?_
  intro T3 v3 h3 H3 q3
  obtain ⟨r3, rfl, K3, T_3⟩ := q3
  have k4 := k2.trans K3 all0
  have f5 := (T_1).exa.keep K3
  have f6 := T_1.ext (o_kext K3)
  show oG p e below s n0 _ _ _ _ (T3.setTop (mkF m 74 #[.val (.int p1), .val (.int p2), .val (.int p3), .val (.int p4), .val (.int p5), .val (.int p6), .val (.int (2 : Int32)), .val (.int (1 : Int32)), .val (.ref a8), .val (.ref r1), .unset, .unset] [(.ref r3)]))
  refine o_astore H3 (L' := #[.val (.int p1), .val (.int p2), .val (.int p3), .val (.int p4), .val (.int p5), .val (.int p6), .val (.int (2 : Int32)), .val (.int (1 : Int32)), .val (.ref a8), .val (.ref r1), .val (.ref r3), .unset]) rfl rfl at_74 rfl ?_
  refine o_iload H3 rfl at_76 rfl ?_
  refine o_iload H3 rfl at_78 rfl ?_
  refine o_isub H3 at_80 rfl ?_
  refine o_fold (1 : Int32) (by decide) ?_
  refine o_istore H3 (L' := #[.val (.int p1), .val (.int p2), .val (.int p3), .val (.int p4), .val (.int p5), .val (.int p6), .val (.int (2 : Int32)), .val (.int (1 : Int32)), .val (.ref a8), .val (.ref r1), .val (.ref r3), .val (.int (1 : Int32))]) rfl at_81 rfl ?_
  refine o_aload H3 rfl rfl at_83 rfl ?_
  refine o_virtual H3 [] [] ((rmLen l Z a0 hw r3 (fun vm => IB Z vm []) oSt.ib ([own_low x1] : List Int32) cs fm h3 n0 H3.le (WW.ext (o_kext k4)) T_3 (Nat.le_of_ble_eq_true rfl)).mono (fun v h q => (⟨q.1, q.2⟩ : v = some (.int (1 : Int32)) ∧ h3 = h))) (T_3).exa (w45 hw) (w33 hw) (o_nf (w35 hw)) (w35 hw) (w34 hw) (w9 hw) (w36 hw) (by decide) (lenOf pd6 rfl) rfl rfl (by decide) (Nat.le_of_ble_eq_true rfl) (by decide) (by decide) at_85 rfl (fun _ q => q) oSt.ib ?_
  intro T7 v7 h7 H7 q7
  obtain ⟨rfl, rfl⟩ := q7
  show oG p e below s n0 _ _ _ _ (T7.setTop (mkF m 88 #[.val (.int p1), .val (.int p2), .val (.int p3), .val (.int p4), .val (.int p5), .val (.int p6), .val (.int (2 : Int32)), .val (.int (1 : Int32)), .val (.ref a8), .val (.ref r1), .val (.ref r3), .val (.int (1 : Int32))] [(.int (1 : Int32))]))
  refine o_iload H7 rfl at_88 rfl ?_
  refine o_icmp_t H7 at_90 (by decide) (pt := 95) (by decide) (by decide) ?_
  refine o_aload H7 rfl rfl at_95 rfl ?_
  refine o_aload H7 rfl rfl at_97 rfl ?_
  refine o_iload H7 rfl at_99 rfl ?_
  refine o_iload H7 rfl at_101 rfl ?_
  refine o_iconst H7 (0 : Int32) rfl at_103 rfl ?_
  refine o_static H7 [(.ref r3), (.ref a8), (.int (1 : Int32)), (.int (1 : Int32)), (.int (0 : Int32))] [] (rm8 l Z a0 hw r3 a8 (1 : Int32) (1 : Int32) (0 : Int32) (fun vm => IB Z vm []) oSt.ib ([own_low x1] : List Int32) [(.int x0), (.int x1), (.int x2), (.int x3)] 0 1 x1 cs fm h3 n0 H7.le (WW.ext (o_kext k4)) T_3 (Nat.le_of_ble_eq_true rfl) (AV1.ext (o_kext k4)) (by decide) (by decide) rfl (by decide) rfl hx1) (w46 hw) (w47 hw) (w5 hw) (w48 hw) (by decide) (lenOf pd8 rfl) rfl rfl (by decide) (Nat.le_of_ble_eq_true rfl) (by decide) (by decide) at_104 rfl (fun _ q => q) oSt.ib ?_
  intro T8 v8 h8 H8 q8
  obtain ⟨rfl, rfl⟩ := q8
  show oG p e below s n0 _ _ _ _ (T8.setTop (mkF m 107 #[.val (.int p1), .val (.int p2), .val (.int p3), .val (.int p4), .val (.int p5), .val (.int p6), .val (.int (2 : Int32)), .val (.int (1 : Int32)), .val (.ref a8), .val (.ref r1), .val (.ref r3), .val (.int (1 : Int32))] [(.int (1 : Int32))]))
  refine o_if_f H8 at_107 (by decide) rfl ?_
  refine o_aload H8 rfl rfl at_110 rfl ?_
  refine o_aload H8 rfl rfl at_112 rfl ?_
  refine o_iload H8 rfl at_114 rfl ?_
  refine o_iload H8 rfl at_116 rfl ?_
  refine o_iconst H8 (1 : Int32) rfl at_118 rfl ?_
  refine o_static H8 [(.ref r3), (.ref a8), (.int (1 : Int32)), (.int (1 : Int32)), (.int (1 : Int32))] [] (rm8_N l Z a0 hw r3 a8 (1 : Int32) (1 : Int32) (1 : Int32) (fun vm => IB Z vm []) oSt.ib  h3 n0 H8.le (by decide)) (w46 hw) (w47 hw) (w5 hw) (w48 hw) (by decide) (lenOf pd8 rfl) rfl rfl (by decide) (Nat.le_of_ble_eq_true rfl) (by decide) (by decide) at_119 rfl (fun _ q => q) oSt.ib ?_
  intro T9 v9 h9 H9 q9
  obtain ⟨rfl, rfl⟩ := q9
  show oG p e below s n0 _ _ _ _ (T9.setTop (mkF m 122 #[.val (.int p1), .val (.int p2), .val (.int p3), .val (.int p4), .val (.int p5), .val (.int p6), .val (.int (2 : Int32)), .val (.int (1 : Int32)), .val (.ref a8), .val (.ref r1), .val (.ref r3), .val (.int (1 : Int32))] [(.int (1 : Int32))]))
  refine o_if_f H9 at_122 (by decide) rfl ?_
  refine o_aload H9 rfl rfl at_125 rfl ?_
  refine o_aload H9 rfl rfl at_127 rfl ?_
  refine o_iload H9 rfl at_129 rfl ?_
  refine o_iload H9 rfl at_131 rfl ?_
  refine o_iconst H9 (2 : Int32) rfl at_133 rfl ?_
  refine o_static H9 [(.ref r3), (.ref a8), (.int (1 : Int32)), (.int (1 : Int32)), (.int (2 : Int32))] [] (rm8_N l Z a0 hw r3 a8 (1 : Int32) (1 : Int32) (2 : Int32) (fun vm => IB Z vm []) oSt.ib  h3 n0 H9.le (by decide)) (w46 hw) (w47 hw) (w5 hw) (w48 hw) (by decide) (lenOf pd8 rfl) rfl rfl (by decide) (Nat.le_of_ble_eq_true rfl) (by decide) (by decide) at_134 rfl (fun _ q => q) oSt.ib ?_
  intro T10 v10 h10 H10 q10
  obtain ⟨rfl, rfl⟩ := q10
  show oG p e below s n0 _ _ _ _ (T10.setTop (mkF m 137 #[.val (.int p1), .val (.int p2), .val (.int p3), .val (.int p4), .val (.int p5), .val (.int p6), .val (.int (2 : Int32)), .val (.int (1 : Int32)), .val (.ref a8), .val (.ref r1), .val (.ref r3), .val (.int (1 : Int32))] [(.int (1 : Int32))]))
  refine o_if_f H10 at_137 (by decide) rfl ?_
  refine o_aload H10 rfl rfl at_140 rfl ?_
  refine o_aload H10 rfl rfl at_142 rfl ?_
  refine o_iload H10 rfl at_144 rfl ?_
  refine o_iload H10 rfl at_146 rfl ?_
  refine o_iconst H10 (3 : Int32) rfl at_148 rfl ?_
  refine o_static H10 [(.ref r3), (.ref a8), (.int (1 : Int32)), (.int (1 : Int32)), (.int (3 : Int32))] [] (rm8_N l Z a0 hw r3 a8 (1 : Int32) (1 : Int32) (3 : Int32) (fun vm => IB Z vm []) oSt.ib  h3 n0 H10.le (by decide)) (w46 hw) (w47 hw) (w5 hw) (w48 hw) (by decide) (lenOf pd8 rfl) rfl rfl (by decide) (Nat.le_of_ble_eq_true rfl) (by decide) (by decide) at_149 rfl (fun _ q => q) oSt.ib ?_
  intro T11 v11 h11 H11 q11
  obtain ⟨rfl, rfl⟩ := q11
  show oG p e below s n0 _ _ _ _ (T11.setTop (mkF m 152 #[.val (.int p1), .val (.int p2), .val (.int p3), .val (.int p4), .val (.int p5), .val (.int p6), .val (.int (2 : Int32)), .val (.int (1 : Int32)), .val (.ref a8), .val (.ref r1), .val (.ref r3), .val (.int (1 : Int32))] [(.int (1 : Int32))]))
  refine o_if_f H11 at_152 (by decide) rfl ?_
  refine o_iconst H11 (1 : Int32) rfl at_155 rfl ?_
  refine o_goto H11 at_156 (pt := 160) (by decide) (by decide) ?_
  exact o_nreturn H11 .boolean rfl (by simp) at_160 oSt.ib (fun _ _ => trivial) (by decide) (by decide) rfl
set_option maxRecDepth 65536 in
set_option maxHeartbeats 40000000 in
theorem rmL_2_2 (l : Launch) (Z : State) (a0 : Array Value) (hw : ∀ d ∈ tables_1, d.before a0 Z = true) (p1 p2 p3 p4 p5 p6 x0 x1 x2 x3 : Int32) (a8 : Addr) (cs : Int32) (fm : Value) (h0 : Heap) (n0 : Nat) (AV1 : oA .char Z h0 a8 [(.int x0), (.int x1), (.int x2), (.int x3)]) (hx0 : own_chr x0) (hx1 : own_chr x1) (hx2 : own_chr x2) (hx3 : own_chr x3) (WW : own_W Z h0 cs fm) (hh : Jvm.Lit.constHeld Z "java/lang/String" 7) (hcw : Jvm.Lit.compactW.before a0 Z = true) (E0 : Ext Z.heap h0) (p : Program) (e : Env) (s : State) (m : MethodId) (below : List Frame) (meth : Method) (c : Code) (T : State) (H : oH p l e room_1 s m #[.int p1, .int p2, .int p3, .int p4, .int p5, .int p6] below meth c code maxLocals x ret Z n0 T h0 1 4 false (fun vm => IB Z vm [])) :
    oG p e below s n0 32 1216 (fun _ _ => True) (fun v h => v = some (.int 1)) (T.setTop (mkF m 58 #[.val (.int p1), .val (.int p2), .val (.int p3), .val (.int p4), .val (.int p5), .val (.int p6), .val (.int (2 : Int32)), .val (.int (2 : Int32)), .val (.ref a8), .unset, .unset, .unset] [])) := by
  refine o_iload H rfl at_58 rfl ?_
  refine o_aload H rfl rfl at_60 rfl ?_
  refine o_static H [(.int (2 : Int32)), (.ref a8)] [] (rm1_2 l Z a0 hw a8 (fun vm => IB Z vm []) oSt.ib cs fm x0 x1 x2 x3 h0 n0 H.le AV1 hx0 hx1 hx2 hx3 WW) (w3 hw) (w4 hw) (w5 hw) (w6 hw) (by decide) (lenOf pd1 rfl) rfl rfl (by decide) (Nat.le_of_ble_eq_true rfl) (by decide) (by decide) at_62 rfl (fun _ q => q) oSt.ib ?_
  intro T1 v1 h1 H1 q1
  obtain ⟨r1, rfl, K1, T_1⟩ := q1
  have k2 := (Keep.refl h0 []).trans K1 all0
  show oG p e below s n0 _ _ _ _ (T1.setTop (mkF m 65 #[.val (.int p1), .val (.int p2), .val (.int p3), .val (.int p4), .val (.int p5), .val (.int p6), .val (.int (2 : Int32)), .val (.int (2 : Int32)), .val (.ref a8), .unset, .unset, .unset] [(.ref r1)]))
  refine o_astore H1 (L' := #[.val (.int p1), .val (.int p2), .val (.int p3), .val (.int p4), .val (.int p5), .val (.int p6), .val (.int (2 : Int32)), .val (.int (2 : Int32)), .val (.ref a8), .val (.ref r1), .unset, .unset]) rfl rfl at_65 rfl ?_
  refine o_aload H1 rfl rfl at_67 rfl ?_
  refine o_iload H1 rfl at_69 rfl ?_
  refine o_static H1 [(.ref r1), (.int (2 : Int32))] [] (rm5_0 l Z a0 hw r1 (2 : Int32) (fun vm => IB Z vm []) oSt.ib ([x0, x1] : List Int32) 2 cs fm  h1 n0 H1.le (WW.ext (o_kext k2)) T_1 (Nat.le_of_ble_eq_true rfl) (show (2 : Nat).toInt32 - (2 : Int32) = (0 : Int32) by decide) (by decide) (by decide)  hh hcw (Or.inl ⟨fun _ q => q, o_etrans E0 (o_kext k2)⟩)) (w28 hw) (w29 hw) (w30 hw) (w31 hw) (by decide) (lenOf pd5 rfl) rfl rfl (by decide) (Nat.le_of_ble_eq_true rfl) (by decide) (by decide) at_71 rfl (fun _ q => q) oSt.ib ?_
  intro T3 v3 h3 H3 q3
  obtain ⟨r3, rfl, K3, T_3⟩ := q3
  have k4 := k2.trans K3 all0
  have f5 := (T_1).exa.keep K3
  have f6 := T_1.ext (o_kext K3)
  show oG p e below s n0 _ _ _ _ (T3.setTop (mkF m 74 #[.val (.int p1), .val (.int p2), .val (.int p3), .val (.int p4), .val (.int p5), .val (.int p6), .val (.int (2 : Int32)), .val (.int (2 : Int32)), .val (.ref a8), .val (.ref r1), .unset, .unset] [(.ref r3)]))
  refine o_astore H3 (L' := #[.val (.int p1), .val (.int p2), .val (.int p3), .val (.int p4), .val (.int p5), .val (.int p6), .val (.int (2 : Int32)), .val (.int (2 : Int32)), .val (.ref a8), .val (.ref r1), .val (.ref r3), .unset]) rfl rfl at_74 rfl ?_
  refine o_iload H3 rfl at_76 rfl ?_
  refine o_iload H3 rfl at_78 rfl ?_
  refine o_isub H3 at_80 rfl ?_
  refine o_fold (0 : Int32) (by decide) ?_
  refine o_istore H3 (L' := #[.val (.int p1), .val (.int p2), .val (.int p3), .val (.int p4), .val (.int p5), .val (.int p6), .val (.int (2 : Int32)), .val (.int (2 : Int32)), .val (.ref a8), .val (.ref r1), .val (.ref r3), .val (.int (0 : Int32))]) rfl at_81 rfl ?_
  refine o_aload H3 rfl rfl at_83 rfl ?_
  refine o_virtual H3 [] [] ((rmLen l Z a0 hw r3 (fun vm => ∃ ab : Addr × Addr, own_LF Z h3 ab.1 ab.2 ∧ Lit (Z.setVm vm) "java/lang/String" 7 ab.1) own_lj ([] : List Int32) cs fm h3 n0 H3.le (WW.ext (o_kext k4)) T_3 (Nat.le_of_ble_eq_true rfl)).mono (fun v h q => (⟨q.1, q.2⟩ : v = some (.int (0 : Int32)) ∧ h3 = h))) (T_3).exa (w45 hw) (w33 hw) (o_nf (w35 hw)) (w35 hw) (w34 hw) (w9 hw) (w36 hw) (by decide) (lenOf pd6 rfl) rfl rfl (by decide) (Nat.le_of_ble_eq_true rfl) (by decide) (by decide) at_85 rfl (fun _ q => q) own_lj ?_
  intro T7 v7 h7 H7 q7
  obtain ⟨rfl, rfl⟩ := q7
  show oG p e below s n0 _ _ _ _ (T7.setTop (mkF m 88 #[.val (.int p1), .val (.int p2), .val (.int p3), .val (.int p4), .val (.int p5), .val (.int p6), .val (.int (2 : Int32)), .val (.int (2 : Int32)), .val (.ref a8), .val (.ref r1), .val (.ref r3), .val (.int (0 : Int32))] [(.int (0 : Int32))]))
  refine o_iload H7 rfl at_88 rfl ?_
  refine o_icmp_t H7 at_90 (by decide) (pt := 95) (by decide) (by decide) ?_
  refine o_aload H7 rfl rfl at_95 rfl ?_
  refine o_aload H7 rfl rfl at_97 rfl ?_
  refine o_iload H7 rfl at_99 rfl ?_
  refine o_iload H7 rfl at_101 rfl ?_
  refine o_iconst H7 (0 : Int32) rfl at_103 rfl ?_
  refine o_static H7 [(.ref r3), (.ref a8), (.int (2 : Int32)), (.int (0 : Int32)), (.int (0 : Int32))] [] (rm8_N l Z a0 hw r3 a8 (2 : Int32) (0 : Int32) (0 : Int32) (fun vm => ∃ ab : Addr × Addr, own_LF Z h3 ab.1 ab.2 ∧ Lit (Z.setVm vm) "java/lang/String" 7 ab.1) own_lj  h3 n0 H7.le (by decide)) (w46 hw) (w47 hw) (w5 hw) (w48 hw) (by decide) (lenOf pd8 rfl) rfl rfl (by decide) (Nat.le_of_ble_eq_true rfl) (by decide) (by decide) at_104 rfl (fun _ q => q) own_lj ?_
  intro T8 v8 h8 H8 q8
  obtain ⟨rfl, rfl⟩ := q8
  show oG p e below s n0 _ _ _ _ (T8.setTop (mkF m 107 #[.val (.int p1), .val (.int p2), .val (.int p3), .val (.int p4), .val (.int p5), .val (.int p6), .val (.int (2 : Int32)), .val (.int (2 : Int32)), .val (.ref a8), .val (.ref r1), .val (.ref r3), .val (.int (0 : Int32))] [(.int (1 : Int32))]))
  refine o_if_f H8 at_107 (by decide) rfl ?_
  refine o_aload H8 rfl rfl at_110 rfl ?_
  refine o_aload H8 rfl rfl at_112 rfl ?_
  refine o_iload H8 rfl at_114 rfl ?_
  refine o_iload H8 rfl at_116 rfl ?_
  refine o_iconst H8 (1 : Int32) rfl at_118 rfl ?_
  refine o_static H8 [(.ref r3), (.ref a8), (.int (2 : Int32)), (.int (0 : Int32)), (.int (1 : Int32))] [] (rm8_N l Z a0 hw r3 a8 (2 : Int32) (0 : Int32) (1 : Int32) (fun vm => ∃ ab : Addr × Addr, own_LF Z h3 ab.1 ab.2 ∧ Lit (Z.setVm vm) "java/lang/String" 7 ab.1) own_lj  h3 n0 H8.le (by decide)) (w46 hw) (w47 hw) (w5 hw) (w48 hw) (by decide) (lenOf pd8 rfl) rfl rfl (by decide) (Nat.le_of_ble_eq_true rfl) (by decide) (by decide) at_119 rfl (fun _ q => q) own_lj ?_
  intro T9 v9 h9 H9 q9
  obtain ⟨rfl, rfl⟩ := q9
  show oG p e below s n0 _ _ _ _ (T9.setTop (mkF m 122 #[.val (.int p1), .val (.int p2), .val (.int p3), .val (.int p4), .val (.int p5), .val (.int p6), .val (.int (2 : Int32)), .val (.int (2 : Int32)), .val (.ref a8), .val (.ref r1), .val (.ref r3), .val (.int (0 : Int32))] [(.int (1 : Int32))]))
  refine o_if_f H9 at_122 (by decide) rfl ?_
  refine o_aload H9 rfl rfl at_125 rfl ?_
  refine o_aload H9 rfl rfl at_127 rfl ?_
  refine o_iload H9 rfl at_129 rfl ?_
  refine o_iload H9 rfl at_131 rfl ?_
  refine o_iconst H9 (2 : Int32) rfl at_133 rfl ?_
  refine o_static H9 [(.ref r3), (.ref a8), (.int (2 : Int32)), (.int (0 : Int32)), (.int (2 : Int32))] [] (rm8_N l Z a0 hw r3 a8 (2 : Int32) (0 : Int32) (2 : Int32) (fun vm => ∃ ab : Addr × Addr, own_LF Z h3 ab.1 ab.2 ∧ Lit (Z.setVm vm) "java/lang/String" 7 ab.1) own_lj  h3 n0 H9.le (by decide)) (w46 hw) (w47 hw) (w5 hw) (w48 hw) (by decide) (lenOf pd8 rfl) rfl rfl (by decide) (Nat.le_of_ble_eq_true rfl) (by decide) (by decide) at_134 rfl (fun _ q => q) own_lj ?_
  intro T10 v10 h10 H10 q10
  obtain ⟨rfl, rfl⟩ := q10
  show oG p e below s n0 _ _ _ _ (T10.setTop (mkF m 137 #[.val (.int p1), .val (.int p2), .val (.int p3), .val (.int p4), .val (.int p5), .val (.int p6), .val (.int (2 : Int32)), .val (.int (2 : Int32)), .val (.ref a8), .val (.ref r1), .val (.ref r3), .val (.int (0 : Int32))] [(.int (1 : Int32))]))
  refine o_if_f H10 at_137 (by decide) rfl ?_
  refine o_aload H10 rfl rfl at_140 rfl ?_
  refine o_aload H10 rfl rfl at_142 rfl ?_
  refine o_iload H10 rfl at_144 rfl ?_
  refine o_iload H10 rfl at_146 rfl ?_
  refine o_iconst H10 (3 : Int32) rfl at_148 rfl ?_
  refine o_static H10 [(.ref r3), (.ref a8), (.int (2 : Int32)), (.int (0 : Int32)), (.int (3 : Int32))] [] (rm8_N l Z a0 hw r3 a8 (2 : Int32) (0 : Int32) (3 : Int32) (fun vm => ∃ ab : Addr × Addr, own_LF Z h3 ab.1 ab.2 ∧ Lit (Z.setVm vm) "java/lang/String" 7 ab.1) own_lj  h3 n0 H10.le (by decide)) (w46 hw) (w47 hw) (w5 hw) (w48 hw) (by decide) (lenOf pd8 rfl) rfl rfl (by decide) (Nat.le_of_ble_eq_true rfl) (by decide) (by decide) at_149 rfl (fun _ q => q) own_lj ?_
  intro T11 v11 h11 H11 q11
  obtain ⟨rfl, rfl⟩ := q11
  show oG p e below s n0 _ _ _ _ (T11.setTop (mkF m 152 #[.val (.int p1), .val (.int p2), .val (.int p3), .val (.int p4), .val (.int p5), .val (.int p6), .val (.int (2 : Int32)), .val (.int (2 : Int32)), .val (.ref a8), .val (.ref r1), .val (.ref r3), .val (.int (0 : Int32))] [(.int (1 : Int32))]))
  refine o_if_f H11 at_152 (by decide) rfl ?_
  refine o_iconst H11 (1 : Int32) rfl at_155 rfl ?_
  refine o_goto H11 at_156 (pt := 160) (by decide) (by decide) ?_
  exact o_nreturn H11 .boolean rfl (by simp) at_160 own_lj (fun _ _ => trivial) (by decide) (by decide) rfl
set_option maxRecDepth 65536 in
set_option maxHeartbeats 40000000 in
theorem rmL_3_0 (l : Launch) (Z : State) (a0 : Array Value) (hw : ∀ d ∈ tables_1, d.before a0 Z = true) (p1 p2 p3 p4 p5 p6 x0 x1 x2 x3 : Int32) (a8 : Addr) (cs : Int32) (fm : Value) (h0 : Heap) (n0 : Nat) (AV1 : oA .char Z h0 a8 [(.int x0), (.int x1), (.int x2), (.int x3)]) (hx0 : own_chr x0) (hx1 : own_chr x1) (hx2 : own_chr x2) (hx3 : own_chr x3) (WW : own_W Z h0 cs fm) (hh : Jvm.Lit.constHeld Z "java/lang/String" 7) (hcw : Jvm.Lit.compactW.before a0 Z = true) (E0 : Ext Z.heap h0) (p : Program) (e : Env) (s : State) (m : MethodId) (below : List Frame) (meth : Method) (c : Code) (T : State) (H : oH p l e room_1 s m #[.int p1, .int p2, .int p3, .int p4, .int p5, .int p6] below meth c code maxLocals x ret Z n0 T h0 1 4 false (fun vm => IB Z vm [])) :
    oG p e below s n0 32 1216 (fun _ _ => True) (fun v h => v = some (.int 1)) (T.setTop (mkF m 58 #[.val (.int p1), .val (.int p2), .val (.int p3), .val (.int p4), .val (.int p5), .val (.int p6), .val (.int (3 : Int32)), .val (.int (0 : Int32)), .val (.ref a8), .unset, .unset, .unset] [])) := by
  refine o_iload H rfl at_58 rfl ?_
  refine o_aload H rfl rfl at_60 rfl ?_
  refine o_static H [(.int (3 : Int32)), (.ref a8)] [] (rm1_3 l Z a0 hw a8 (fun vm => IB Z vm []) oSt.ib cs fm x0 x1 x2 x3 h0 n0 H.le AV1 hx0 hx1 hx2 hx3 WW) (w3 hw) (w4 hw) (w5 hw) (w6 hw) (by decide) (lenOf pd1 rfl) rfl rfl (by decide) (Nat.le_of_ble_eq_true rfl) (by decide) (by decide) at_62 rfl (fun _ q => q) oSt.ib ?_
  intro T1 v1 h1 H1 q1
  obtain ⟨r1, rfl, K1, T_1⟩ := q1
  have k2 := (Keep.refl h0 []).trans K1 all0
  show oG p e below s n0 _ _ _ _ (T1.setTop (mkF m 65 #[.val (.int p1), .val (.int p2), .val (.int p3), .val (.int p4), .val (.int p5), .val (.int p6), .val (.int (3 : Int32)), .val (.int (0 : Int32)), .val (.ref a8), .unset, .unset, .unset] [(.ref r1)]))
  refine o_astore H1 (L' := #[.val (.int p1), .val (.int p2), .val (.int p3), .val (.int p4), .val (.int p5), .val (.int p6), .val (.int (3 : Int32)), .val (.int (0 : Int32)), .val (.ref a8), .val (.ref r1), .unset, .unset]) rfl rfl at_65 rfl ?_
  refine o_aload H1 rfl rfl at_67 rfl ?_
  refine o_iload H1 rfl at_69 rfl ?_
  refine o_static H1 [(.ref r1), (.int (0 : Int32))] [] (rm5_3 l Z a0 hw r1 (0 : Int32) (fun vm => IB Z vm []) oSt.ib ([x0, x1, x2] : List Int32) 0 cs fm x0 x1 x2 h1 n0 H1.le (WW.ext (o_kext k2)) T_1 (Nat.le_of_ble_eq_true rfl) (show (3 : Nat).toInt32 - (0 : Int32) = (3 : Int32) by decide) (by decide) (by decide) rfl hx0 rfl hx1 rfl hx2) (w28 hw) (w29 hw) (w30 hw) (w31 hw) (by decide) (lenOf pd5 rfl) rfl rfl (by decide) (Nat.le_of_ble_eq_true rfl) (by decide) (by decide) at_71 rfl (fun _ q => q) oSt.ib ?_
  intro T3 v3 h3 H3 q3
  obtain ⟨r3, rfl, K3, T_3⟩ := q3
  have k4 := k2.trans K3 all0
  have f5 := (T_1).exa.keep K3
  have f6 := T_1.ext (o_kext K3)
  show oG p e below s n0 _ _ _ _ (T3.setTop (mkF m 74 #[.val (.int p1), .val (.int p2), .val (.int p3), .val (.int p4), .val (.int p5), .val (.int p6), .val (.int (3 : Int32)), .val (.int (0 : Int32)), .val (.ref a8), .val (.ref r1), .unset, .unset] [(.ref r3)]))
  refine o_astore H3 (L' := #[.val (.int p1), .val (.int p2), .val (.int p3), .val (.int p4), .val (.int p5), .val (.int p6), .val (.int (3 : Int32)), .val (.int (0 : Int32)), .val (.ref a8), .val (.ref r1), .val (.ref r3), .unset]) rfl rfl at_74 rfl ?_
  refine o_iload H3 rfl at_76 rfl ?_
  refine o_iload H3 rfl at_78 rfl ?_
  refine o_isub H3 at_80 rfl ?_
  refine o_fold (3 : Int32) (by decide) ?_
  refine o_istore H3 (L' := #[.val (.int p1), .val (.int p2), .val (.int p3), .val (.int p4), .val (.int p5), .val (.int p6), .val (.int (3 : Int32)), .val (.int (0 : Int32)), .val (.ref a8), .val (.ref r1), .val (.ref r3), .val (.int (3 : Int32))]) rfl at_81 rfl ?_
  refine o_aload H3 rfl rfl at_83 rfl ?_
  refine o_virtual H3 [] [] ((rmLen l Z a0 hw r3 (fun vm => IB Z vm []) oSt.ib ([own_low x0, own_low x1, own_low x2] : List Int32) cs fm h3 n0 H3.le (WW.ext (o_kext k4)) T_3 (Nat.le_of_ble_eq_true rfl)).mono (fun v h q => (⟨q.1, q.2⟩ : v = some (.int (3 : Int32)) ∧ h3 = h))) (T_3).exa (w45 hw) (w33 hw) (o_nf (w35 hw)) (w35 hw) (w34 hw) (w9 hw) (w36 hw) (by decide) (lenOf pd6 rfl) rfl rfl (by decide) (Nat.le_of_ble_eq_true rfl) (by decide) (by decide) at_85 rfl (fun _ q => q) oSt.ib ?_
  intro T7 v7 h7 H7 q7
  obtain ⟨rfl, rfl⟩ := q7
  show oG p e below s n0 _ _ _ _ (T7.setTop (mkF m 88 #[.val (.int p1), .val (.int p2), .val (.int p3), .val (.int p4), .val (.int p5), .val (.int p6), .val (.int (3 : Int32)), .val (.int (0 : Int32)), .val (.ref a8), .val (.ref r1), .val (.ref r3), .val (.int (3 : Int32))] [(.int (3 : Int32))]))
  refine o_iload H7 rfl at_88 rfl ?_
  refine o_icmp_t H7 at_90 (by decide) (pt := 95) (by decide) (by decide) ?_
  refine o_aload H7 rfl rfl at_95 rfl ?_
  refine o_aload H7 rfl rfl at_97 rfl ?_
  refine o_iload H7 rfl at_99 rfl ?_
  refine o_iload H7 rfl at_101 rfl ?_
  refine o_iconst H7 (0 : Int32) rfl at_103 rfl ?_
  refine o_static H7 [(.ref r3), (.ref a8), (.int (0 : Int32)), (.int (3 : Int32)), (.int (0 : Int32))] [] (rm8 l Z a0 hw r3 a8 (0 : Int32) (3 : Int32) (0 : Int32) (fun vm => IB Z vm []) oSt.ib ([own_low x0, own_low x1, own_low x2] : List Int32) [(.int x0), (.int x1), (.int x2), (.int x3)] 0 0 x0 cs fm h3 n0 H7.le (WW.ext (o_kext k4)) T_3 (Nat.le_of_ble_eq_true rfl) (AV1.ext (o_kext k4)) (by decide) (by decide) rfl (by decide) rfl hx0) (w46 hw) (w47 hw) (w5 hw) (w48 hw) (by decide) (lenOf pd8 rfl) rfl rfl (by decide) (Nat.le_of_ble_eq_true rfl) (by decide) (by decide) at_104 rfl (fun _ q => q) oSt.ib ?_
  intro T8 v8 h8 H8 q8
  obtain ⟨rfl, rfl⟩ := q8
  show oG p e below s n0 _ _ _ _ (T8.setTop (mkF m 107 #[.val (.int p1), .val (.int p2), .val (.int p3), .val (.int p4), .val (.int p5), .val (.int p6), .val (.int (3 : Int32)), .val (.int (0 : Int32)), .val (.ref a8), .val (.ref r1), .val (.ref r3), .val (.int (3 : Int32))] [(.int (1 : Int32))]))
  refine o_if_f H8 at_107 (by decide) rfl ?_
  refine o_aload H8 rfl rfl at_110 rfl ?_
  refine o_aload H8 rfl rfl at_112 rfl ?_
  refine o_iload H8 rfl at_114 rfl ?_
  refine o_iload H8 rfl at_116 rfl ?_
  refine o_iconst H8 (1 : Int32) rfl at_118 rfl ?_
  refine o_static H8 [(.ref r3), (.ref a8), (.int (0 : Int32)), (.int (3 : Int32)), (.int (1 : Int32))] [] (rm8 l Z a0 hw r3 a8 (0 : Int32) (3 : Int32) (1 : Int32) (fun vm => IB Z vm []) oSt.ib ([own_low x0, own_low x1, own_low x2] : List Int32) [(.int x0), (.int x1), (.int x2), (.int x3)] 1 1 x1 cs fm h3 n0 H8.le (WW.ext (o_kext k4)) T_3 (Nat.le_of_ble_eq_true rfl) (AV1.ext (o_kext k4)) (by decide) (by decide) rfl (by decide) rfl hx1) (w46 hw) (w47 hw) (w5 hw) (w48 hw) (by decide) (lenOf pd8 rfl) rfl rfl (by decide) (Nat.le_of_ble_eq_true rfl) (by decide) (by decide) at_119 rfl (fun _ q => q) oSt.ib ?_
  intro T9 v9 h9 H9 q9
  obtain ⟨rfl, rfl⟩ := q9
  show oG p e below s n0 _ _ _ _ (T9.setTop (mkF m 122 #[.val (.int p1), .val (.int p2), .val (.int p3), .val (.int p4), .val (.int p5), .val (.int p6), .val (.int (3 : Int32)), .val (.int (0 : Int32)), .val (.ref a8), .val (.ref r1), .val (.ref r3), .val (.int (3 : Int32))] [(.int (1 : Int32))]))
  refine o_if_f H9 at_122 (by decide) rfl ?_
  refine o_aload H9 rfl rfl at_125 rfl ?_
  refine o_aload H9 rfl rfl at_127 rfl ?_
  refine o_iload H9 rfl at_129 rfl ?_
  refine o_iload H9 rfl at_131 rfl ?_
  refine o_iconst H9 (2 : Int32) rfl at_133 rfl ?_
  refine o_static H9 [(.ref r3), (.ref a8), (.int (0 : Int32)), (.int (3 : Int32)), (.int (2 : Int32))] [] (rm8 l Z a0 hw r3 a8 (0 : Int32) (3 : Int32) (2 : Int32) (fun vm => IB Z vm []) oSt.ib ([own_low x0, own_low x1, own_low x2] : List Int32) [(.int x0), (.int x1), (.int x2), (.int x3)] 2 2 x2 cs fm h3 n0 H9.le (WW.ext (o_kext k4)) T_3 (Nat.le_of_ble_eq_true rfl) (AV1.ext (o_kext k4)) (by decide) (by decide) rfl (by decide) rfl hx2) (w46 hw) (w47 hw) (w5 hw) (w48 hw) (by decide) (lenOf pd8 rfl) rfl rfl (by decide) (Nat.le_of_ble_eq_true rfl) (by decide) (by decide) at_134 rfl (fun _ q => q) oSt.ib ?_
  intro T10 v10 h10 H10 q10
  obtain ⟨rfl, rfl⟩ := q10
  show oG p e below s n0 _ _ _ _ (T10.setTop (mkF m 137 #[.val (.int p1), .val (.int p2), .val (.int p3), .val (.int p4), .val (.int p5), .val (.int p6), .val (.int (3 : Int32)), .val (.int (0 : Int32)), .val (.ref a8), .val (.ref r1), .val (.ref r3), .val (.int (3 : Int32))] [(.int (1 : Int32))]))
  refine o_if_f H10 at_137 (by decide) rfl ?_
  refine o_aload H10 rfl rfl at_140 rfl ?_
  refine o_aload H10 rfl rfl at_142 rfl ?_
  refine o_iload H10 rfl at_144 rfl ?_
  refine o_iload H10 rfl at_146 rfl ?_
  refine o_iconst H10 (3 : Int32) rfl at_148 rfl ?_
  refine o_static H10 [(.ref r3), (.ref a8), (.int (0 : Int32)), (.int (3 : Int32)), (.int (3 : Int32))] [] (rm8_N l Z a0 hw r3 a8 (0 : Int32) (3 : Int32) (3 : Int32) (fun vm => IB Z vm []) oSt.ib  h3 n0 H10.le (by decide)) (w46 hw) (w47 hw) (w5 hw) (w48 hw) (by decide) (lenOf pd8 rfl) rfl rfl (by decide) (Nat.le_of_ble_eq_true rfl) (by decide) (by decide) at_149 rfl (fun _ q => q) oSt.ib ?_
  intro T11 v11 h11 H11 q11
  obtain ⟨rfl, rfl⟩ := q11
  show oG p e below s n0 _ _ _ _ (T11.setTop (mkF m 152 #[.val (.int p1), .val (.int p2), .val (.int p3), .val (.int p4), .val (.int p5), .val (.int p6), .val (.int (3 : Int32)), .val (.int (0 : Int32)), .val (.ref a8), .val (.ref r1), .val (.ref r3), .val (.int (3 : Int32))] [(.int (1 : Int32))]))
  refine o_if_f H11 at_152 (by decide) rfl ?_
  refine o_iconst H11 (1 : Int32) rfl at_155 rfl ?_
  refine o_goto H11 at_156 (pt := 160) (by decide) (by decide) ?_
  exact o_nreturn H11 .boolean rfl (by simp) at_160 oSt.ib (fun _ _ => trivial) (by decide) (by decide) rfl
set_option maxRecDepth 65536 in
set_option maxHeartbeats 40000000 in
theorem rmL_3_1 (l : Launch) (Z : State) (a0 : Array Value) (hw : ∀ d ∈ tables_1, d.before a0 Z = true) (p1 p2 p3 p4 p5 p6 x0 x1 x2 x3 : Int32) (a8 : Addr) (cs : Int32) (fm : Value) (h0 : Heap) (n0 : Nat) (AV1 : oA .char Z h0 a8 [(.int x0), (.int x1), (.int x2), (.int x3)]) (hx0 : own_chr x0) (hx1 : own_chr x1) (hx2 : own_chr x2) (hx3 : own_chr x3) (WW : own_W Z h0 cs fm) (hh : Jvm.Lit.constHeld Z "java/lang/String" 7) (hcw : Jvm.Lit.compactW.before a0 Z = true) (E0 : Ext Z.heap h0) (p : Program) (e : Env) (s : State) (m : MethodId) (below : List Frame) (meth : Method) (c : Code) (T : State) (H : oH p l e room_1 s m #[.int p1, .int p2, .int p3, .int p4, .int p5, .int p6] below meth c code maxLocals x ret Z n0 T h0 1 4 false (fun vm => IB Z vm [])) :
    oG p e below s n0 32 1216 (fun _ _ => True) (fun v h => v = some (.int 1)) (T.setTop (mkF m 58 #[.val (.int p1), .val (.int p2), .val (.int p3), .val (.int p4), .val (.int p5), .val (.int p6), .val (.int (3 : Int32)), .val (.int (1 : Int32)), .val (.ref a8), .unset, .unset, .unset] [])) := by
  refine o_iload H rfl at_58 rfl ?_
  refine o_aload H rfl rfl at_60 rfl ?_
  refine o_static H [(.int (3 : Int32)), (.ref a8)] [] (rm1_3 l Z a0 hw a8 (fun vm => IB Z vm []) oSt.ib cs fm x0 x1 x2 x3 h0 n0 H.le AV1 hx0 hx1 hx2 hx3 WW) (w3 hw) (w4 hw) (w5 hw) (w6 hw) (by decide) (lenOf pd1 rfl) rfl rfl (by decide) (Nat.le_of_ble_eq_true rfl) (by decide) (by decide) at_62 rfl (fun _ q => q) oSt.ib ?_
  intro T1 v1 h1 H1 q1
  obtain ⟨r1, rfl, K1, T_1⟩ := q1
  have k2 := (Keep.refl h0 []).trans K1 all0
  show oG p e below s n0 _ _ _ _ (T1.setTop (mkF m 65 #[.val (.int p1), .val (.int p2), .val (.int p3), .val (.int p4), .val (.int p5), .val (.int p6), .val (.int (3 : Int32)), .val (.int (1 : Int32)), .val (.ref a8), .unset, .unset, .unset] [(.ref r1)]))
  refine o_astore H1 (L' := #[.val (.int p1), .val (.int p2), .val (.int p3), .val (.int p4), .val (.int p5), .val (.int p6), .val (.int (3 : Int32)), .val (.int (1 : Int32)), .val (.ref a8), .val (.ref r1), .unset, .unset]) rfl rfl at_65 rfl ?_
  refine o_aload H1 rfl rfl at_67 rfl ?_
  refine o_iload H1 rfl at_69 rfl ?_
  refine o_static H1 [(.ref r1), (.int (1 : Int32))] [] (rm5_2 l Z a0 hw r1 (1 : Int32) (fun vm => IB Z vm []) oSt.ib ([x0, x1, x2] : List Int32) 1 cs fm x1 x2 h1 n0 H1.le (WW.ext (o_kext k2)) T_1 (Nat.le_of_ble_eq_true rfl) (show (3 : Nat).toInt32 - (1 : Int32) = (2 : Int32) by decide) (by decide) (by decide) rfl hx1 rfl hx2) (w28 hw) (w29 hw) (w30 hw) (w31 hw) (by decide) (lenOf pd5 rfl) rfl rfl (by decide) (Nat.le_of_ble_eq_true rfl) (by decide) (by decide) at_71 rfl (fun _ q => q) oSt.ib ?_
  intro T3 v3 h3 H3 q3
  obtain ⟨r3, rfl, K3, T_3⟩ := q3
  have k4 := k2.trans K3 all0
  have f5 := (T_1).exa.keep K3
  have f6 := T_1.ext (o_kext K3)
  show oG p e below s n0 _ _ _ _ (T3.setTop (mkF m 74 #[.val (.int p1), .val (.int p2), .val (.int p3), .val (.int p4), .val (.int p5), .val (.int p6), .val (.int (3 : Int32)), .val (.int (1 : Int32)), .val (.ref a8), .val (.ref r1), .unset, .unset] [(.ref r3)]))
  refine o_astore H3 (L' := #[.val (.int p1), .val (.int p2), .val (.int p3), .val (.int p4), .val (.int p5), .val (.int p6), .val (.int (3 : Int32)), .val (.int (1 : Int32)), .val (.ref a8), .val (.ref r1), .val (.ref r3), .unset]) rfl rfl at_74 rfl ?_
  refine o_iload H3 rfl at_76 rfl ?_
  refine o_iload H3 rfl at_78 rfl ?_
  refine o_isub H3 at_80 rfl ?_
  refine o_fold (2 : Int32) (by decide) ?_
  refine o_istore H3 (L' := #[.val (.int p1), .val (.int p2), .val (.int p3), .val (.int p4), .val (.int p5), .val (.int p6), .val (.int (3 : Int32)), .val (.int (1 : Int32)), .val (.ref a8), .val (.ref r1), .val (.ref r3), .val (.int (2 : Int32))]) rfl at_81 rfl ?_
  refine o_aload H3 rfl rfl at_83 rfl ?_
  refine o_virtual H3 [] [] ((rmLen l Z a0 hw r3 (fun vm => IB Z vm []) oSt.ib ([own_low x1, own_low x2] : List Int32) cs fm h3 n0 H3.le (WW.ext (o_kext k4)) T_3 (Nat.le_of_ble_eq_true rfl)).mono (fun v h q => (⟨q.1, q.2⟩ : v = some (.int (2 : Int32)) ∧ h3 = h))) (T_3).exa (w45 hw) (w33 hw) (o_nf (w35 hw)) (w35 hw) (w34 hw) (w9 hw) (w36 hw) (by decide) (lenOf pd6 rfl) rfl rfl (by decide) (Nat.le_of_ble_eq_true rfl) (by decide) (by decide) at_85 rfl (fun _ q => q) oSt.ib ?_
  intro T7 v7 h7 H7 q7
  obtain ⟨rfl, rfl⟩ := q7
  show oG p e below s n0 _ _ _ _ (T7.setTop (mkF m 88 #[.val (.int p1), .val (.int p2), .val (.int p3), .val (.int p4), .val (.int p5), .val (.int p6), .val (.int (3 : Int32)), .val (.int (1 : Int32)), .val (.ref a8), .val (.ref r1), .val (.ref r3), .val (.int (2 : Int32))] [(.int (2 : Int32))]))
  refine o_iload H7 rfl at_88 rfl ?_
  refine o_icmp_t H7 at_90 (by decide) (pt := 95) (by decide) (by decide) ?_
  refine o_aload H7 rfl rfl at_95 rfl ?_
  refine o_aload H7 rfl rfl at_97 rfl ?_
  refine o_iload H7 rfl at_99 rfl ?_
  refine o_iload H7 rfl at_101 rfl ?_
  refine o_iconst H7 (0 : Int32) rfl at_103 rfl ?_
  refine o_static H7 [(.ref r3), (.ref a8), (.int (1 : Int32)), (.int (2 : Int32)), (.int (0 : Int32))] [] (rm8 l Z a0 hw r3 a8 (1 : Int32) (2 : Int32) (0 : Int32) (fun vm => IB Z vm []) oSt.ib ([own_low x1, own_low x2] : List Int32) [(.int x0), (.int x1), (.int x2), (.int x3)] 0 1 x1 cs fm h3 n0 H7.le (WW.ext (o_kext k4)) T_3 (Nat.le_of_ble_eq_true rfl) (AV1.ext (o_kext k4)) (by decide) (by decide) rfl (by decide) rfl hx1) (w46 hw) (w47 hw) (w5 hw) (w48 hw) (by decide) (lenOf pd8 rfl) rfl rfl (by decide) (Nat.le_of_ble_eq_true rfl) (by decide) (by decide) at_104 rfl (fun _ q => q) oSt.ib ?_
  intro T8 v8 h8 H8 q8
  obtain ⟨rfl, rfl⟩ := q8
  show oG p e below s n0 _ _ _ _ (T8.setTop (mkF m 107 #[.val (.int p1), .val (.int p2), .val (.int p3), .val (.int p4), .val (.int p5), .val (.int p6), .val (.int (3 : Int32)), .val (.int (1 : Int32)), .val (.ref a8), .val (.ref r1), .val (.ref r3), .val (.int (2 : Int32))] [(.int (1 : Int32))]))
  refine o_if_f H8 at_107 (by decide) rfl ?_
  refine o_aload H8 rfl rfl at_110 rfl ?_
  refine o_aload H8 rfl rfl at_112 rfl ?_
  refine o_iload H8 rfl at_114 rfl ?_
  refine o_iload H8 rfl at_116 rfl ?_
  refine o_iconst H8 (1 : Int32) rfl at_118 rfl ?_
  refine o_static H8 [(.ref r3), (.ref a8), (.int (1 : Int32)), (.int (2 : Int32)), (.int (1 : Int32))] [] (rm8 l Z a0 hw r3 a8 (1 : Int32) (2 : Int32) (1 : Int32) (fun vm => IB Z vm []) oSt.ib ([own_low x1, own_low x2] : List Int32) [(.int x0), (.int x1), (.int x2), (.int x3)] 1 2 x2 cs fm h3 n0 H8.le (WW.ext (o_kext k4)) T_3 (Nat.le_of_ble_eq_true rfl) (AV1.ext (o_kext k4)) (by decide) (by decide) rfl (by decide) rfl hx2) (w46 hw) (w47 hw) (w5 hw) (w48 hw) (by decide) (lenOf pd8 rfl) rfl rfl (by decide) (Nat.le_of_ble_eq_true rfl) (by decide) (by decide) at_119 rfl (fun _ q => q) oSt.ib ?_
  intro T9 v9 h9 H9 q9
  obtain ⟨rfl, rfl⟩ := q9
  show oG p e below s n0 _ _ _ _ (T9.setTop (mkF m 122 #[.val (.int p1), .val (.int p2), .val (.int p3), .val (.int p4), .val (.int p5), .val (.int p6), .val (.int (3 : Int32)), .val (.int (1 : Int32)), .val (.ref a8), .val (.ref r1), .val (.ref r3), .val (.int (2 : Int32))] [(.int (1 : Int32))]))
  refine o_if_f H9 at_122 (by decide) rfl ?_
  refine o_aload H9 rfl rfl at_125 rfl ?_
  refine o_aload H9 rfl rfl at_127 rfl ?_
  refine o_iload H9 rfl at_129 rfl ?_
  refine o_iload H9 rfl at_131 rfl ?_
  refine o_iconst H9 (2 : Int32) rfl at_133 rfl ?_
  refine o_static H9 [(.ref r3), (.ref a8), (.int (1 : Int32)), (.int (2 : Int32)), (.int (2 : Int32))] [] (rm8_N l Z a0 hw r3 a8 (1 : Int32) (2 : Int32) (2 : Int32) (fun vm => IB Z vm []) oSt.ib  h3 n0 H9.le (by decide)) (w46 hw) (w47 hw) (w5 hw) (w48 hw) (by decide) (lenOf pd8 rfl) rfl rfl (by decide) (Nat.le_of_ble_eq_true rfl) (by decide) (by decide) at_134 rfl (fun _ q => q) oSt.ib ?_
  intro T10 v10 h10 H10 q10
  obtain ⟨rfl, rfl⟩ := q10
  show oG p e below s n0 _ _ _ _ (T10.setTop (mkF m 137 #[.val (.int p1), .val (.int p2), .val (.int p3), .val (.int p4), .val (.int p5), .val (.int p6), .val (.int (3 : Int32)), .val (.int (1 : Int32)), .val (.ref a8), .val (.ref r1), .val (.ref r3), .val (.int (2 : Int32))] [(.int (1 : Int32))]))
  refine o_if_f H10 at_137 (by decide) rfl ?_
  refine o_aload H10 rfl rfl at_140 rfl ?_
  refine o_aload H10 rfl rfl at_142 rfl ?_
  refine o_iload H10 rfl at_144 rfl ?_
  refine o_iload H10 rfl at_146 rfl ?_
  refine o_iconst H10 (3 : Int32) rfl at_148 rfl ?_
  refine o_static H10 [(.ref r3), (.ref a8), (.int (1 : Int32)), (.int (2 : Int32)), (.int (3 : Int32))] [] (rm8_N l Z a0 hw r3 a8 (1 : Int32) (2 : Int32) (3 : Int32) (fun vm => IB Z vm []) oSt.ib  h3 n0 H10.le (by decide)) (w46 hw) (w47 hw) (w5 hw) (w48 hw) (by decide) (lenOf pd8 rfl) rfl rfl (by decide) (Nat.le_of_ble_eq_true rfl) (by decide) (by decide) at_149 rfl (fun _ q => q) oSt.ib ?_
  intro T11 v11 h11 H11 q11
  obtain ⟨rfl, rfl⟩ := q11
  show oG p e below s n0 _ _ _ _ (T11.setTop (mkF m 152 #[.val (.int p1), .val (.int p2), .val (.int p3), .val (.int p4), .val (.int p5), .val (.int p6), .val (.int (3 : Int32)), .val (.int (1 : Int32)), .val (.ref a8), .val (.ref r1), .val (.ref r3), .val (.int (2 : Int32))] [(.int (1 : Int32))]))
  refine o_if_f H11 at_152 (by decide) rfl ?_
  refine o_iconst H11 (1 : Int32) rfl at_155 rfl ?_
  refine o_goto H11 at_156 (pt := 160) (by decide) (by decide) ?_
  exact o_nreturn H11 .boolean rfl (by simp) at_160 oSt.ib (fun _ _ => trivial) (by decide) (by decide) rfl
set_option maxRecDepth 65536 in
set_option maxHeartbeats 40000000 in
theorem rmL_3_2 (l : Launch) (Z : State) (a0 : Array Value) (hw : ∀ d ∈ tables_1, d.before a0 Z = true) (p1 p2 p3 p4 p5 p6 x0 x1 x2 x3 : Int32) (a8 : Addr) (cs : Int32) (fm : Value) (h0 : Heap) (n0 : Nat) (AV1 : oA .char Z h0 a8 [(.int x0), (.int x1), (.int x2), (.int x3)]) (hx0 : own_chr x0) (hx1 : own_chr x1) (hx2 : own_chr x2) (hx3 : own_chr x3) (WW : own_W Z h0 cs fm) (hh : Jvm.Lit.constHeld Z "java/lang/String" 7) (hcw : Jvm.Lit.compactW.before a0 Z = true) (E0 : Ext Z.heap h0) (p : Program) (e : Env) (s : State) (m : MethodId) (below : List Frame) (meth : Method) (c : Code) (T : State) (H : oH p l e room_1 s m #[.int p1, .int p2, .int p3, .int p4, .int p5, .int p6] below meth c code maxLocals x ret Z n0 T h0 1 4 false (fun vm => IB Z vm [])) :
    oG p e below s n0 32 1216 (fun _ _ => True) (fun v h => v = some (.int 1)) (T.setTop (mkF m 58 #[.val (.int p1), .val (.int p2), .val (.int p3), .val (.int p4), .val (.int p5), .val (.int p6), .val (.int (3 : Int32)), .val (.int (2 : Int32)), .val (.ref a8), .unset, .unset, .unset] [])) := by
  refine o_iload H rfl at_58 rfl ?_
  refine o_aload H rfl rfl at_60 rfl ?_
  refine o_static H [(.int (3 : Int32)), (.ref a8)] [] (rm1_3 l Z a0 hw a8 (fun vm => IB Z vm []) oSt.ib cs fm x0 x1 x2 x3 h0 n0 H.le AV1 hx0 hx1 hx2 hx3 WW) (w3 hw) (w4 hw) (w5 hw) (w6 hw) (by decide) (lenOf pd1 rfl) rfl rfl (by decide) (Nat.le_of_ble_eq_true rfl) (by decide) (by decide) at_62 rfl (fun _ q => q) oSt.ib ?_
  intro T1 v1 h1 H1 q1
  obtain ⟨r1, rfl, K1, T_1⟩ := q1
  have k2 := (Keep.refl h0 []).trans K1 all0
  show oG p e below s n0 _ _ _ _ (T1.setTop (mkF m 65 #[.val (.int p1), .val (.int p2), .val (.int p3), .val (.int p4), .val (.int p5), .val (.int p6), .val (.int (3 : Int32)), .val (.int (2 : Int32)), .val (.ref a8), .unset, .unset, .unset] [(.ref r1)]))
  refine o_astore H1 (L' := #[.val (.int p1), .val (.int p2), .val (.int p3), .val (.int p4), .val (.int p5), .val (.int p6), .val (.int (3 : Int32)), .val (.int (2 : Int32)), .val (.ref a8), .val (.ref r1), .unset, .unset]) rfl rfl at_65 rfl ?_
  refine o_aload H1 rfl rfl at_67 rfl ?_
  refine o_iload H1 rfl at_69 rfl ?_
  refine o_static H1 [(.ref r1), (.int (2 : Int32))] [] (rm5_1 l Z a0 hw r1 (2 : Int32) (fun vm => IB Z vm []) oSt.ib ([x0, x1, x2] : List Int32) 2 cs fm x2 h1 n0 H1.le (WW.ext (o_kext k2)) T_1 (Nat.le_of_ble_eq_true rfl) (show (3 : Nat).toInt32 - (2 : Int32) = (1 : Int32) by decide) (by decide) (by decide) rfl hx2) (w28 hw) (w29 hw) (w30 hw) (w31 hw) (by decide) (lenOf pd5 rfl) rfl rfl (by decide) (Nat.le_of_ble_eq_true rfl) (by decide) (by decide) at_71 rfl (fun _ q => q) oSt.ib ?_
  intro T3 v3 h3 H3 q3
  obtain ⟨r3, rfl, K3, T_3⟩ := q3
  have k4 := k2.trans K3 all0
  have f5 := (T_1).exa.keep K3
  have f6 := T_1.ext (o_kext K3)
  show oG p e below s n0 _ _ _ _ (T3.setTop (mkF m 74 #[.val (.int p1), .val (.int p2), .val (.int p3), .val (.int p4), .val (.int p5), .val (.int p6), .val (.int (3 : Int32)), .val (.int (2 : Int32)), .val (.ref a8), .val (.ref r1), .unset, .unset] [(.ref r3)]))
  refine o_astore H3 (L' := #[.val (.int p1), .val (.int p2), .val (.int p3), .val (.int p4), .val (.int p5), .val (.int p6), .val (.int (3 : Int32)), .val (.int (2 : Int32)), .val (.ref a8), .val (.ref r1), .val (.ref r3), .unset]) rfl rfl at_74 rfl ?_
  refine o_iload H3 rfl at_76 rfl ?_
  refine o_iload H3 rfl at_78 rfl ?_
  refine o_isub H3 at_80 rfl ?_
  refine o_fold (1 : Int32) (by decide) ?_
  refine o_istore H3 (L' := #[.val (.int p1), .val (.int p2), .val (.int p3), .val (.int p4), .val (.int p5), .val (.int p6), .val (.int (3 : Int32)), .val (.int (2 : Int32)), .val (.ref a8), .val (.ref r1), .val (.ref r3), .val (.int (1 : Int32))]) rfl at_81 rfl ?_
  refine o_aload H3 rfl rfl at_83 rfl ?_
  refine o_virtual H3 [] [] ((rmLen l Z a0 hw r3 (fun vm => IB Z vm []) oSt.ib ([own_low x2] : List Int32) cs fm h3 n0 H3.le (WW.ext (o_kext k4)) T_3 (Nat.le_of_ble_eq_true rfl)).mono (fun v h q => (⟨q.1, q.2⟩ : v = some (.int (1 : Int32)) ∧ h3 = h))) (T_3).exa (w45 hw) (w33 hw) (o_nf (w35 hw)) (w35 hw) (w34 hw) (w9 hw) (w36 hw) (by decide) (lenOf pd6 rfl) rfl rfl (by decide) (Nat.le_of_ble_eq_true rfl) (by decide) (by decide) at_85 rfl (fun _ q => q) oSt.ib ?_
  intro T7 v7 h7 H7 q7
  obtain ⟨rfl, rfl⟩ := q7
  show oG p e below s n0 _ _ _ _ (T7.setTop (mkF m 88 #[.val (.int p1), .val (.int p2), .val (.int p3), .val (.int p4), .val (.int p5), .val (.int p6), .val (.int (3 : Int32)), .val (.int (2 : Int32)), .val (.ref a8), .val (.ref r1), .val (.ref r3), .val (.int (1 : Int32))] [(.int (1 : Int32))]))
  refine o_iload H7 rfl at_88 rfl ?_
  refine o_icmp_t H7 at_90 (by decide) (pt := 95) (by decide) (by decide) ?_
  refine o_aload H7 rfl rfl at_95 rfl ?_
  refine o_aload H7 rfl rfl at_97 rfl ?_
  refine o_iload H7 rfl at_99 rfl ?_
  refine o_iload H7 rfl at_101 rfl ?_
  refine o_iconst H7 (0 : Int32) rfl at_103 rfl ?_
  refine o_static H7 [(.ref r3), (.ref a8), (.int (2 : Int32)), (.int (1 : Int32)), (.int (0 : Int32))] [] (rm8 l Z a0 hw r3 a8 (2 : Int32) (1 : Int32) (0 : Int32) (fun vm => IB Z vm []) oSt.ib ([own_low x2] : List Int32) [(.int x0), (.int x1), (.int x2), (.int x3)] 0 2 x2 cs fm h3 n0 H7.le (WW.ext (o_kext k4)) T_3 (Nat.le_of_ble_eq_true rfl) (AV1.ext (o_kext k4)) (by decide) (by decide) rfl (by decide) rfl hx2) (w46 hw) (w47 hw) (w5 hw) (w48 hw) (by decide) (lenOf pd8 rfl) rfl rfl (by decide) (Nat.le_of_ble_eq_true rfl) (by decide) (by decide) at_104 rfl (fun _ q => q) oSt.ib ?_
  intro T8 v8 h8 H8 q8
  obtain ⟨rfl, rfl⟩ := q8
  show oG p e below s n0 _ _ _ _ (T8.setTop (mkF m 107 #[.val (.int p1), .val (.int p2), .val (.int p3), .val (.int p4), .val (.int p5), .val (.int p6), .val (.int (3 : Int32)), .val (.int (2 : Int32)), .val (.ref a8), .val (.ref r1), .val (.ref r3), .val (.int (1 : Int32))] [(.int (1 : Int32))]))
  refine o_if_f H8 at_107 (by decide) rfl ?_
  refine o_aload H8 rfl rfl at_110 rfl ?_
  refine o_aload H8 rfl rfl at_112 rfl ?_
  refine o_iload H8 rfl at_114 rfl ?_
  refine o_iload H8 rfl at_116 rfl ?_
  refine o_iconst H8 (1 : Int32) rfl at_118 rfl ?_
  refine o_static H8 [(.ref r3), (.ref a8), (.int (2 : Int32)), (.int (1 : Int32)), (.int (1 : Int32))] [] (rm8_N l Z a0 hw r3 a8 (2 : Int32) (1 : Int32) (1 : Int32) (fun vm => IB Z vm []) oSt.ib  h3 n0 H8.le (by decide)) (w46 hw) (w47 hw) (w5 hw) (w48 hw) (by decide) (lenOf pd8 rfl) rfl rfl (by decide) (Nat.le_of_ble_eq_true rfl) (by decide) (by decide) at_119 rfl (fun _ q => q) oSt.ib ?_
  intro T9 v9 h9 H9 q9
  obtain ⟨rfl, rfl⟩ := q9
  show oG p e below s n0 _ _ _ _ (T9.setTop (mkF m 122 #[.val (.int p1), .val (.int p2), .val (.int p3), .val (.int p4), .val (.int p5), .val (.int p6), .val (.int (3 : Int32)), .val (.int (2 : Int32)), .val (.ref a8), .val (.ref r1), .val (.ref r3), .val (.int (1 : Int32))] [(.int (1 : Int32))]))
  refine o_if_f H9 at_122 (by decide) rfl ?_
  refine o_aload H9 rfl rfl at_125 rfl ?_
  refine o_aload H9 rfl rfl at_127 rfl ?_
  refine o_iload H9 rfl at_129 rfl ?_
  refine o_iload H9 rfl at_131 rfl ?_
  refine o_iconst H9 (2 : Int32) rfl at_133 rfl ?_
  refine o_static H9 [(.ref r3), (.ref a8), (.int (2 : Int32)), (.int (1 : Int32)), (.int (2 : Int32))] [] (rm8_N l Z a0 hw r3 a8 (2 : Int32) (1 : Int32) (2 : Int32) (fun vm => IB Z vm []) oSt.ib  h3 n0 H9.le (by decide)) (w46 hw) (w47 hw) (w5 hw) (w48 hw) (by decide) (lenOf pd8 rfl) rfl rfl (by decide) (Nat.le_of_ble_eq_true rfl) (by decide) (by decide) at_134 rfl (fun _ q => q) oSt.ib ?_
  intro T10 v10 h10 H10 q10
  obtain ⟨rfl, rfl⟩ := q10
  show oG p e below s n0 _ _ _ _ (T10.setTop (mkF m 137 #[.val (.int p1), .val (.int p2), .val (.int p3), .val (.int p4), .val (.int p5), .val (.int p6), .val (.int (3 : Int32)), .val (.int (2 : Int32)), .val (.ref a8), .val (.ref r1), .val (.ref r3), .val (.int (1 : Int32))] [(.int (1 : Int32))]))
  refine o_if_f H10 at_137 (by decide) rfl ?_
  refine o_aload H10 rfl rfl at_140 rfl ?_
  refine o_aload H10 rfl rfl at_142 rfl ?_
  refine o_iload H10 rfl at_144 rfl ?_
  refine o_iload H10 rfl at_146 rfl ?_
  refine o_iconst H10 (3 : Int32) rfl at_148 rfl ?_
  refine o_static H10 [(.ref r3), (.ref a8), (.int (2 : Int32)), (.int (1 : Int32)), (.int (3 : Int32))] [] (rm8_N l Z a0 hw r3 a8 (2 : Int32) (1 : Int32) (3 : Int32) (fun vm => IB Z vm []) oSt.ib  h3 n0 H10.le (by decide)) (w46 hw) (w47 hw) (w5 hw) (w48 hw) (by decide) (lenOf pd8 rfl) rfl rfl (by decide) (Nat.le_of_ble_eq_true rfl) (by decide) (by decide) at_149 rfl (fun _ q => q) oSt.ib ?_
  intro T11 v11 h11 H11 q11
  obtain ⟨rfl, rfl⟩ := q11
  show oG p e below s n0 _ _ _ _ (T11.setTop (mkF m 152 #[.val (.int p1), .val (.int p2), .val (.int p3), .val (.int p4), .val (.int p5), .val (.int p6), .val (.int (3 : Int32)), .val (.int (2 : Int32)), .val (.ref a8), .val (.ref r1), .val (.ref r3), .val (.int (1 : Int32))] [(.int (1 : Int32))]))
  refine o_if_f H11 at_152 (by decide) rfl ?_
  refine o_iconst H11 (1 : Int32) rfl at_155 rfl ?_
  refine o_goto H11 at_156 (pt := 160) (by decide) (by decide) ?_
  exact o_nreturn H11 .boolean rfl (by simp) at_160 oSt.ib (fun _ _ => trivial) (by decide) (by decide) rfl
set_option maxRecDepth 65536 in
set_option maxHeartbeats 40000000 in
theorem rmL_3_3 (l : Launch) (Z : State) (a0 : Array Value) (hw : ∀ d ∈ tables_1, d.before a0 Z = true) (p1 p2 p3 p4 p5 p6 x0 x1 x2 x3 : Int32) (a8 : Addr) (cs : Int32) (fm : Value) (h0 : Heap) (n0 : Nat) (AV1 : oA .char Z h0 a8 [(.int x0), (.int x1), (.int x2), (.int x3)]) (hx0 : own_chr x0) (hx1 : own_chr x1) (hx2 : own_chr x2) (hx3 : own_chr x3) (WW : own_W Z h0 cs fm) (hh : Jvm.Lit.constHeld Z "java/lang/String" 7) (hcw : Jvm.Lit.compactW.before a0 Z = true) (E0 : Ext Z.heap h0) (p : Program) (e : Env) (s : State) (m : MethodId) (below : List Frame) (meth : Method) (c : Code) (T : State) (H : oH p l e room_1 s m #[.int p1, .int p2, .int p3, .int p4, .int p5, .int p6] below meth c code maxLocals x ret Z n0 T h0 1 4 false (fun vm => IB Z vm [])) :
    oG p e below s n0 32 1216 (fun _ _ => True) (fun v h => v = some (.int 1)) (T.setTop (mkF m 58 #[.val (.int p1), .val (.int p2), .val (.int p3), .val (.int p4), .val (.int p5), .val (.int p6), .val (.int (3 : Int32)), .val (.int (3 : Int32)), .val (.ref a8), .unset, .unset, .unset] [])) := by
  refine o_iload H rfl at_58 rfl ?_
  refine o_aload H rfl rfl at_60 rfl ?_
  refine o_static H [(.int (3 : Int32)), (.ref a8)] [] (rm1_3 l Z a0 hw a8 (fun vm => IB Z vm []) oSt.ib cs fm x0 x1 x2 x3 h0 n0 H.le AV1 hx0 hx1 hx2 hx3 WW) (w3 hw) (w4 hw) (w5 hw) (w6 hw) (by decide) (lenOf pd1 rfl) rfl rfl (by decide) (Nat.le_of_ble_eq_true rfl) (by decide) (by decide) at_62 rfl (fun _ q => q) oSt.ib ?_
  intro T1 v1 h1 H1 q1
  obtain ⟨r1, rfl, K1, T_1⟩ := q1
  have k2 := (Keep.refl h0 []).trans K1 all0
  show oG p e below s n0 _ _ _ _ (T1.setTop (mkF m 65 #[.val (.int p1), .val (.int p2), .val (.int p3), .val (.int p4), .val (.int p5), .val (.int p6), .val (.int (3 : Int32)), .val (.int (3 : Int32)), .val (.ref a8), .unset, .unset, .unset] [(.ref r1)]))
  refine o_astore H1 (L' := #[.val (.int p1), .val (.int p2), .val (.int p3), .val (.int p4), .val (.int p5), .val (.int p6), .val (.int (3 : Int32)), .val (.int (3 : Int32)), .val (.ref a8), .val (.ref r1), .unset, .unset]) rfl rfl at_65 rfl ?_
  refine o_aload H1 rfl rfl at_67 rfl ?_
  refine o_iload H1 rfl at_69 rfl ?_
  refine o_static H1 [(.ref r1), (.int (3 : Int32))] [] (rm5_0 l Z a0 hw r1 (3 : Int32) (fun vm => IB Z vm []) oSt.ib ([x0, x1, x2] : List Int32) 3 cs fm  h1 n0 H1.le (WW.ext (o_kext k2)) T_1 (Nat.le_of_ble_eq_true rfl) (show (3 : Nat).toInt32 - (3 : Int32) = (0 : Int32) by decide) (by decide) (by decide)  hh hcw (Or.inl ⟨fun _ q => q, o_etrans E0 (o_kext k2)⟩)) (w28 hw) (w29 hw) (w30 hw) (w31 hw) (by decide) (lenOf pd5 rfl) rfl rfl (by decide) (Nat.le_of_ble_eq_true rfl) (by decide) (by decide) at_71 rfl (fun _ q => q) oSt.ib ?_
  intro T3 v3 h3 H3 q3
  obtain ⟨r3, rfl, K3, T_3⟩ := q3
  have k4 := k2.trans K3 all0
  have f5 := (T_1).exa.keep K3
  have f6 := T_1.ext (o_kext K3)
  show oG p e below s n0 _ _ _ _ (T3.setTop (mkF m 74 #[.val (.int p1), .val (.int p2), .val (.int p3), .val (.int p4), .val (.int p5), .val (.int p6), .val (.int (3 : Int32)), .val (.int (3 : Int32)), .val (.ref a8), .val (.ref r1), .unset, .unset] [(.ref r3)]))
  refine o_astore H3 (L' := #[.val (.int p1), .val (.int p2), .val (.int p3), .val (.int p4), .val (.int p5), .val (.int p6), .val (.int (3 : Int32)), .val (.int (3 : Int32)), .val (.ref a8), .val (.ref r1), .val (.ref r3), .unset]) rfl rfl at_74 rfl ?_
  refine o_iload H3 rfl at_76 rfl ?_
  refine o_iload H3 rfl at_78 rfl ?_
  refine o_isub H3 at_80 rfl ?_
  refine o_fold (0 : Int32) (by decide) ?_
  refine o_istore H3 (L' := #[.val (.int p1), .val (.int p2), .val (.int p3), .val (.int p4), .val (.int p5), .val (.int p6), .val (.int (3 : Int32)), .val (.int (3 : Int32)), .val (.ref a8), .val (.ref r1), .val (.ref r3), .val (.int (0 : Int32))]) rfl at_81 rfl ?_
  refine o_aload H3 rfl rfl at_83 rfl ?_
  refine o_virtual H3 [] [] ((rmLen l Z a0 hw r3 (fun vm => ∃ ab : Addr × Addr, own_LF Z h3 ab.1 ab.2 ∧ Lit (Z.setVm vm) "java/lang/String" 7 ab.1) own_lj ([] : List Int32) cs fm h3 n0 H3.le (WW.ext (o_kext k4)) T_3 (Nat.le_of_ble_eq_true rfl)).mono (fun v h q => (⟨q.1, q.2⟩ : v = some (.int (0 : Int32)) ∧ h3 = h))) (T_3).exa (w45 hw) (w33 hw) (o_nf (w35 hw)) (w35 hw) (w34 hw) (w9 hw) (w36 hw) (by decide) (lenOf pd6 rfl) rfl rfl (by decide) (Nat.le_of_ble_eq_true rfl) (by decide) (by decide) at_85 rfl (fun _ q => q) own_lj ?_
  intro T7 v7 h7 H7 q7
  obtain ⟨rfl, rfl⟩ := q7
  show oG p e below s n0 _ _ _ _ (T7.setTop (mkF m 88 #[.val (.int p1), .val (.int p2), .val (.int p3), .val (.int p4), .val (.int p5), .val (.int p6), .val (.int (3 : Int32)), .val (.int (3 : Int32)), .val (.ref a8), .val (.ref r1), .val (.ref r3), .val (.int (0 : Int32))] [(.int (0 : Int32))]))
  refine o_iload H7 rfl at_88 rfl ?_
  refine o_icmp_t H7 at_90 (by decide) (pt := 95) (by decide) (by decide) ?_
  refine o_aload H7 rfl rfl at_95 rfl ?_
  refine o_aload H7 rfl rfl at_97 rfl ?_
  refine o_iload H7 rfl at_99 rfl ?_
  refine o_iload H7 rfl at_101 rfl ?_
  refine o_iconst H7 (0 : Int32) rfl at_103 rfl ?_
  refine o_static H7 [(.ref r3), (.ref a8), (.int (3 : Int32)), (.int (0 : Int32)), (.int (0 : Int32))] [] (rm8_N l Z a0 hw r3 a8 (3 : Int32) (0 : Int32) (0 : Int32) (fun vm => ∃ ab : Addr × Addr, own_LF Z h3 ab.1 ab.2 ∧ Lit (Z.setVm vm) "java/lang/String" 7 ab.1) own_lj  h3 n0 H7.le (by decide)) (w46 hw) (w47 hw) (w5 hw) (w48 hw) (by decide) (lenOf pd8 rfl) rfl rfl (by decide) (Nat.le_of_ble_eq_true rfl) (by decide) (by decide) at_104 rfl (fun _ q => q) own_lj ?_
  intro T8 v8 h8 H8 q8
  obtain ⟨rfl, rfl⟩ := q8
  show oG p e below s n0 _ _ _ _ (T8.setTop (mkF m 107 #[.val (.int p1), .val (.int p2), .val (.int p3), .val (.int p4), .val (.int p5), .val (.int p6), .val (.int (3 : Int32)), .val (.int (3 : Int32)), .val (.ref a8), .val (.ref r1), .val (.ref r3), .val (.int (0 : Int32))] [(.int (1 : Int32))]))
  refine o_if_f H8 at_107 (by decide) rfl ?_
  refine o_aload H8 rfl rfl at_110 rfl ?_
  refine o_aload H8 rfl rfl at_112 rfl ?_
  refine o_iload H8 rfl at_114 rfl ?_
  refine o_iload H8 rfl at_116 rfl ?_
  refine o_iconst H8 (1 : Int32) rfl at_118 rfl ?_
  refine o_static H8 [(.ref r3), (.ref a8), (.int (3 : Int32)), (.int (0 : Int32)), (.int (1 : Int32))] [] (rm8_N l Z a0 hw r3 a8 (3 : Int32) (0 : Int32) (1 : Int32) (fun vm => ∃ ab : Addr × Addr, own_LF Z h3 ab.1 ab.2 ∧ Lit (Z.setVm vm) "java/lang/String" 7 ab.1) own_lj  h3 n0 H8.le (by decide)) (w46 hw) (w47 hw) (w5 hw) (w48 hw) (by decide) (lenOf pd8 rfl) rfl rfl (by decide) (Nat.le_of_ble_eq_true rfl) (by decide) (by decide) at_119 rfl (fun _ q => q) own_lj ?_
  intro T9 v9 h9 H9 q9
  obtain ⟨rfl, rfl⟩ := q9
  show oG p e below s n0 _ _ _ _ (T9.setTop (mkF m 122 #[.val (.int p1), .val (.int p2), .val (.int p3), .val (.int p4), .val (.int p5), .val (.int p6), .val (.int (3 : Int32)), .val (.int (3 : Int32)), .val (.ref a8), .val (.ref r1), .val (.ref r3), .val (.int (0 : Int32))] [(.int (1 : Int32))]))
  refine o_if_f H9 at_122 (by decide) rfl ?_
  refine o_aload H9 rfl rfl at_125 rfl ?_
  refine o_aload H9 rfl rfl at_127 rfl ?_
  refine o_iload H9 rfl at_129 rfl ?_
  refine o_iload H9 rfl at_131 rfl ?_
  refine o_iconst H9 (2 : Int32) rfl at_133 rfl ?_
  refine o_static H9 [(.ref r3), (.ref a8), (.int (3 : Int32)), (.int (0 : Int32)), (.int (2 : Int32))] [] (rm8_N l Z a0 hw r3 a8 (3 : Int32) (0 : Int32) (2 : Int32) (fun vm => ∃ ab : Addr × Addr, own_LF Z h3 ab.1 ab.2 ∧ Lit (Z.setVm vm) "java/lang/String" 7 ab.1) own_lj  h3 n0 H9.le (by decide)) (w46 hw) (w47 hw) (w5 hw) (w48 hw) (by decide) (lenOf pd8 rfl) rfl rfl (by decide) (Nat.le_of_ble_eq_true rfl) (by decide) (by decide) at_134 rfl (fun _ q => q) own_lj ?_
  intro T10 v10 h10 H10 q10
  obtain ⟨rfl, rfl⟩ := q10
  show oG p e below s n0 _ _ _ _ (T10.setTop (mkF m 137 #[.val (.int p1), .val (.int p2), .val (.int p3), .val (.int p4), .val (.int p5), .val (.int p6), .val (.int (3 : Int32)), .val (.int (3 : Int32)), .val (.ref a8), .val (.ref r1), .val (.ref r3), .val (.int (0 : Int32))] [(.int (1 : Int32))]))
  refine o_if_f H10 at_137 (by decide) rfl ?_
  refine o_aload H10 rfl rfl at_140 rfl ?_
  refine o_aload H10 rfl rfl at_142 rfl ?_
  refine o_iload H10 rfl at_144 rfl ?_
  refine o_iload H10 rfl at_146 rfl ?_
  refine o_iconst H10 (3 : Int32) rfl at_148 rfl ?_
  refine o_static H10 [(.ref r3), (.ref a8), (.int (3 : Int32)), (.int (0 : Int32)), (.int (3 : Int32))] [] (rm8_N l Z a0 hw r3 a8 (3 : Int32) (0 : Int32) (3 : Int32) (fun vm => ∃ ab : Addr × Addr, own_LF Z h3 ab.1 ab.2 ∧ Lit (Z.setVm vm) "java/lang/String" 7 ab.1) own_lj  h3 n0 H10.le (by decide)) (w46 hw) (w47 hw) (w5 hw) (w48 hw) (by decide) (lenOf pd8 rfl) rfl rfl (by decide) (Nat.le_of_ble_eq_true rfl) (by decide) (by decide) at_149 rfl (fun _ q => q) own_lj ?_
  intro T11 v11 h11 H11 q11
  obtain ⟨rfl, rfl⟩ := q11
  show oG p e below s n0 _ _ _ _ (T11.setTop (mkF m 152 #[.val (.int p1), .val (.int p2), .val (.int p3), .val (.int p4), .val (.int p5), .val (.int p6), .val (.int (3 : Int32)), .val (.int (3 : Int32)), .val (.ref a8), .val (.ref r1), .val (.ref r3), .val (.int (0 : Int32))] [(.int (1 : Int32))]))
  refine o_if_f H11 at_152 (by decide) rfl ?_
  refine o_iconst H11 (1 : Int32) rfl at_155 rfl ?_
  refine o_goto H11 at_156 (pt := 160) (by decide) (by decide) ?_
  exact o_nreturn H11 .boolean rfl (by simp) at_160 own_lj (fun _ _ => trivial) (by decide) (by decide) rfl
set_option maxRecDepth 65536 in
set_option maxHeartbeats 40000000 in
theorem rmL_4_0 (l : Launch) (Z : State) (a0 : Array Value) (hw : ∀ d ∈ tables_1, d.before a0 Z = true) (p1 p2 p3 p4 p5 p6 x0 x1 x2 x3 : Int32) (a8 : Addr) (cs : Int32) (fm : Value) (h0 : Heap) (n0 : Nat) (AV1 : oA .char Z h0 a8 [(.int x0), (.int x1), (.int x2), (.int x3)]) (hx0 : own_chr x0) (hx1 : own_chr x1) (hx2 : own_chr x2) (hx3 : own_chr x3) (WW : own_W Z h0 cs fm) (hh : Jvm.Lit.constHeld Z "java/lang/String" 7) (hcw : Jvm.Lit.compactW.before a0 Z = true) (E0 : Ext Z.heap h0) (p : Program) (e : Env) (s : State) (m : MethodId) (below : List Frame) (meth : Method) (c : Code) (T : State) (H : oH p l e room_1 s m #[.int p1, .int p2, .int p3, .int p4, .int p5, .int p6] below meth c code maxLocals x ret Z n0 T h0 1 4 false (fun vm => IB Z vm [])) :
    oG p e below s n0 32 1216 (fun _ _ => True) (fun v h => v = some (.int 1)) (T.setTop (mkF m 58 #[.val (.int p1), .val (.int p2), .val (.int p3), .val (.int p4), .val (.int p5), .val (.int p6), .val (.int (4 : Int32)), .val (.int (0 : Int32)), .val (.ref a8), .unset, .unset, .unset] [])) := by
  refine o_iload H rfl at_58 rfl ?_
  refine o_aload H rfl rfl at_60 rfl ?_
  refine o_static H [(.int (4 : Int32)), (.ref a8)] [] (rm1_4 l Z a0 hw a8 (fun vm => IB Z vm []) oSt.ib cs fm x0 x1 x2 x3 h0 n0 H.le AV1 hx0 hx1 hx2 hx3 WW) (w3 hw) (w4 hw) (w5 hw) (w6 hw) (by decide) (lenOf pd1 rfl) rfl rfl (by decide) (Nat.le_of_ble_eq_true rfl) (by decide) (by decide) at_62 rfl (fun _ q => q) oSt.ib ?_
  intro T1 v1 h1 H1 q1
  obtain ⟨r1, rfl, K1, T_1⟩ := q1
  have k2 := (Keep.refl h0 []).trans K1 all0
  show oG p e below s n0 _ _ _ _ (T1.setTop (mkF m 65 #[.val (.int p1), .val (.int p2), .val (.int p3), .val (.int p4), .val (.int p5), .val (.int p6), .val (.int (4 : Int32)), .val (.int (0 : Int32)), .val (.ref a8), .unset, .unset, .unset] [(.ref r1)]))
  refine o_astore H1 (L' := #[.val (.int p1), .val (.int p2), .val (.int p3), .val (.int p4), .val (.int p5), .val (.int p6), .val (.int (4 : Int32)), .val (.int (0 : Int32)), .val (.ref a8), .val (.ref r1), .unset, .unset]) rfl rfl at_65 rfl ?_
  refine o_aload H1 rfl rfl at_67 rfl ?_
  refine o_iload H1 rfl at_69 rfl ?_
  refine o_static H1 [(.ref r1), (.int (0 : Int32))] [] (rm5_4 l Z a0 hw r1 (0 : Int32) (fun vm => IB Z vm []) oSt.ib ([x0, x1, x2, x3] : List Int32) 0 cs fm x0 x1 x2 x3 h1 n0 H1.le (WW.ext (o_kext k2)) T_1 (Nat.le_of_ble_eq_true rfl) (show (4 : Nat).toInt32 - (0 : Int32) = (4 : Int32) by decide) (by decide) (by decide) rfl hx0 rfl hx1 rfl hx2 rfl hx3) (w28 hw) (w29 hw) (w30 hw) (w31 hw) (by decide) (lenOf pd5 rfl) rfl rfl (by decide) (Nat.le_of_ble_eq_true rfl) (by decide) (by decide) at_71 rfl (fun _ q => q) oSt.ib ?_
  intro T3 v3 h3 H3 q3
  obtain ⟨r3, rfl, K3, T_3⟩ := q3
  have k4 := k2.trans K3 all0
  have f5 := (T_1).exa.keep K3
  have f6 := T_1.ext (o_kext K3)
  show oG p e below s n0 _ _ _ _ (T3.setTop (mkF m 74 #[.val (.int p1), .val (.int p2), .val (.int p3), .val (.int p4), .val (.int p5), .val (.int p6), .val (.int (4 : Int32)), .val (.int (0 : Int32)), .val (.ref a8), .val (.ref r1), .unset, .unset] [(.ref r3)]))
  refine o_astore H3 (L' := #[.val (.int p1), .val (.int p2), .val (.int p3), .val (.int p4), .val (.int p5), .val (.int p6), .val (.int (4 : Int32)), .val (.int (0 : Int32)), .val (.ref a8), .val (.ref r1), .val (.ref r3), .unset]) rfl rfl at_74 rfl ?_
  refine o_iload H3 rfl at_76 rfl ?_
  refine o_iload H3 rfl at_78 rfl ?_
  refine o_isub H3 at_80 rfl ?_
  refine o_fold (4 : Int32) (by decide) ?_
  refine o_istore H3 (L' := #[.val (.int p1), .val (.int p2), .val (.int p3), .val (.int p4), .val (.int p5), .val (.int p6), .val (.int (4 : Int32)), .val (.int (0 : Int32)), .val (.ref a8), .val (.ref r1), .val (.ref r3), .val (.int (4 : Int32))]) rfl at_81 rfl ?_
  refine o_aload H3 rfl rfl at_83 rfl ?_
  refine o_virtual H3 [] [] ((rmLen l Z a0 hw r3 (fun vm => IB Z vm []) oSt.ib ([own_low x0, own_low x1, own_low x2, own_low x3] : List Int32) cs fm h3 n0 H3.le (WW.ext (o_kext k4)) T_3 (Nat.le_of_ble_eq_true rfl)).mono (fun v h q => (⟨q.1, q.2⟩ : v = some (.int (4 : Int32)) ∧ h3 = h))) (T_3).exa (w45 hw) (w33 hw) (o_nf (w35 hw)) (w35 hw) (w34 hw) (w9 hw) (w36 hw) (by decide) (lenOf pd6 rfl) rfl rfl (by decide) (Nat.le_of_ble_eq_true rfl) (by decide) (by decide) at_85 rfl (fun _ q => q) oSt.ib ?_
  intro T7 v7 h7 H7 q7
  obtain ⟨rfl, rfl⟩ := q7
  show oG p e below s n0 _ _ _ _ (T7.setTop (mkF m 88 #[.val (.int p1), .val (.int p2), .val (.int p3), .val (.int p4), .val (.int p5), .val (.int p6), .val (.int (4 : Int32)), .val (.int (0 : Int32)), .val (.ref a8), .val (.ref r1), .val (.ref r3), .val (.int (4 : Int32))] [(.int (4 : Int32))]))
  refine o_iload H7 rfl at_88 rfl ?_
  refine o_icmp_t H7 at_90 (by decide) (pt := 95) (by decide) (by decide) ?_
  refine o_aload H7 rfl rfl at_95 rfl ?_
  refine o_aload H7 rfl rfl at_97 rfl ?_
  refine o_iload H7 rfl at_99 rfl ?_
  refine o_iload H7 rfl at_101 rfl ?_
  refine o_iconst H7 (0 : Int32) rfl at_103 rfl ?_
  refine o_static H7 [(.ref r3), (.ref a8), (.int (0 : Int32)), (.int (4 : Int32)), (.int (0 : Int32))] [] (rm8 l Z a0 hw r3 a8 (0 : Int32) (4 : Int32) (0 : Int32) (fun vm => IB Z vm []) oSt.ib ([own_low x0, own_low x1, own_low x2, own_low x3] : List Int32) [(.int x0), (.int x1), (.int x2), (.int x3)] 0 0 x0 cs fm h3 n0 H7.le (WW.ext (o_kext k4)) T_3 (Nat.le_of_ble_eq_true rfl) (AV1.ext (o_kext k4)) (by decide) (by decide) rfl (by decide) rfl hx0) (w46 hw) (w47 hw) (w5 hw) (w48 hw) (by decide) (lenOf pd8 rfl) rfl rfl (by decide) (Nat.le_of_ble_eq_true rfl) (by decide) (by decide) at_104 rfl (fun _ q => q) oSt.ib ?_
  intro T8 v8 h8 H8 q8
  obtain ⟨rfl, rfl⟩ := q8
  show oG p e below s n0 _ _ _ _ (T8.setTop (mkF m 107 #[.val (.int p1), .val (.int p2), .val (.int p3), .val (.int p4), .val (.int p5), .val (.int p6), .val (.int (4 : Int32)), .val (.int (0 : Int32)), .val (.ref a8), .val (.ref r1), .val (.ref r3), .val (.int (4 : Int32))] [(.int (1 : Int32))]))
  refine o_if_f H8 at_107 (by decide) rfl ?_
  refine o_aload H8 rfl rfl at_110 rfl ?_
  refine o_aload H8 rfl rfl at_112 rfl ?_
  refine o_iload H8 rfl at_114 rfl ?_
  refine o_iload H8 rfl at_116 rfl ?_
  refine o_iconst H8 (1 : Int32) rfl at_118 rfl ?_
  refine o_static H8 [(.ref r3), (.ref a8), (.int (0 : Int32)), (.int (4 : Int32)), (.int (1 : Int32))] [] (rm8 l Z a0 hw r3 a8 (0 : Int32) (4 : Int32) (1 : Int32) (fun vm => IB Z vm []) oSt.ib ([own_low x0, own_low x1, own_low x2, own_low x3] : List Int32) [(.int x0), (.int x1), (.int x2), (.int x3)] 1 1 x1 cs fm h3 n0 H8.le (WW.ext (o_kext k4)) T_3 (Nat.le_of_ble_eq_true rfl) (AV1.ext (o_kext k4)) (by decide) (by decide) rfl (by decide) rfl hx1) (w46 hw) (w47 hw) (w5 hw) (w48 hw) (by decide) (lenOf pd8 rfl) rfl rfl (by decide) (Nat.le_of_ble_eq_true rfl) (by decide) (by decide) at_119 rfl (fun _ q => q) oSt.ib ?_
  intro T9 v9 h9 H9 q9
  obtain ⟨rfl, rfl⟩ := q9
  show oG p e below s n0 _ _ _ _ (T9.setTop (mkF m 122 #[.val (.int p1), .val (.int p2), .val (.int p3), .val (.int p4), .val (.int p5), .val (.int p6), .val (.int (4 : Int32)), .val (.int (0 : Int32)), .val (.ref a8), .val (.ref r1), .val (.ref r3), .val (.int (4 : Int32))] [(.int (1 : Int32))]))
  refine o_if_f H9 at_122 (by decide) rfl ?_
  refine o_aload H9 rfl rfl at_125 rfl ?_
  refine o_aload H9 rfl rfl at_127 rfl ?_
  refine o_iload H9 rfl at_129 rfl ?_
  refine o_iload H9 rfl at_131 rfl ?_
  refine o_iconst H9 (2 : Int32) rfl at_133 rfl ?_
  refine o_static H9 [(.ref r3), (.ref a8), (.int (0 : Int32)), (.int (4 : Int32)), (.int (2 : Int32))] [] (rm8 l Z a0 hw r3 a8 (0 : Int32) (4 : Int32) (2 : Int32) (fun vm => IB Z vm []) oSt.ib ([own_low x0, own_low x1, own_low x2, own_low x3] : List Int32) [(.int x0), (.int x1), (.int x2), (.int x3)] 2 2 x2 cs fm h3 n0 H9.le (WW.ext (o_kext k4)) T_3 (Nat.le_of_ble_eq_true rfl) (AV1.ext (o_kext k4)) (by decide) (by decide) rfl (by decide) rfl hx2) (w46 hw) (w47 hw) (w5 hw) (w48 hw) (by decide) (lenOf pd8 rfl) rfl rfl (by decide) (Nat.le_of_ble_eq_true rfl) (by decide) (by decide) at_134 rfl (fun _ q => q) oSt.ib ?_
  intro T10 v10 h10 H10 q10
  obtain ⟨rfl, rfl⟩ := q10
  show oG p e below s n0 _ _ _ _ (T10.setTop (mkF m 137 #[.val (.int p1), .val (.int p2), .val (.int p3), .val (.int p4), .val (.int p5), .val (.int p6), .val (.int (4 : Int32)), .val (.int (0 : Int32)), .val (.ref a8), .val (.ref r1), .val (.ref r3), .val (.int (4 : Int32))] [(.int (1 : Int32))]))
  refine o_if_f H10 at_137 (by decide) rfl ?_
  refine o_aload H10 rfl rfl at_140 rfl ?_
  refine o_aload H10 rfl rfl at_142 rfl ?_
  refine o_iload H10 rfl at_144 rfl ?_
  refine o_iload H10 rfl at_146 rfl ?_
  refine o_iconst H10 (3 : Int32) rfl at_148 rfl ?_
  refine o_static H10 [(.ref r3), (.ref a8), (.int (0 : Int32)), (.int (4 : Int32)), (.int (3 : Int32))] [] (rm8 l Z a0 hw r3 a8 (0 : Int32) (4 : Int32) (3 : Int32) (fun vm => IB Z vm []) oSt.ib ([own_low x0, own_low x1, own_low x2, own_low x3] : List Int32) [(.int x0), (.int x1), (.int x2), (.int x3)] 3 3 x3 cs fm h3 n0 H10.le (WW.ext (o_kext k4)) T_3 (Nat.le_of_ble_eq_true rfl) (AV1.ext (o_kext k4)) (by decide) (by decide) rfl (by decide) rfl hx3) (w46 hw) (w47 hw) (w5 hw) (w48 hw) (by decide) (lenOf pd8 rfl) rfl rfl (by decide) (Nat.le_of_ble_eq_true rfl) (by decide) (by decide) at_149 rfl (fun _ q => q) oSt.ib ?_
  intro T11 v11 h11 H11 q11
  obtain ⟨rfl, rfl⟩ := q11
  show oG p e below s n0 _ _ _ _ (T11.setTop (mkF m 152 #[.val (.int p1), .val (.int p2), .val (.int p3), .val (.int p4), .val (.int p5), .val (.int p6), .val (.int (4 : Int32)), .val (.int (0 : Int32)), .val (.ref a8), .val (.ref r1), .val (.ref r3), .val (.int (4 : Int32))] [(.int (1 : Int32))]))
  refine o_if_f H11 at_152 (by decide) rfl ?_
  refine o_iconst H11 (1 : Int32) rfl at_155 rfl ?_
  refine o_goto H11 at_156 (pt := 160) (by decide) (by decide) ?_
  exact o_nreturn H11 .boolean rfl (by simp) at_160 oSt.ib (fun _ _ => trivial) (by decide) (by decide) rfl
set_option maxRecDepth 65536 in
set_option maxHeartbeats 40000000 in
theorem rmL_4_1 (l : Launch) (Z : State) (a0 : Array Value) (hw : ∀ d ∈ tables_1, d.before a0 Z = true) (p1 p2 p3 p4 p5 p6 x0 x1 x2 x3 : Int32) (a8 : Addr) (cs : Int32) (fm : Value) (h0 : Heap) (n0 : Nat) (AV1 : oA .char Z h0 a8 [(.int x0), (.int x1), (.int x2), (.int x3)]) (hx0 : own_chr x0) (hx1 : own_chr x1) (hx2 : own_chr x2) (hx3 : own_chr x3) (WW : own_W Z h0 cs fm) (hh : Jvm.Lit.constHeld Z "java/lang/String" 7) (hcw : Jvm.Lit.compactW.before a0 Z = true) (E0 : Ext Z.heap h0) (p : Program) (e : Env) (s : State) (m : MethodId) (below : List Frame) (meth : Method) (c : Code) (T : State) (H : oH p l e room_1 s m #[.int p1, .int p2, .int p3, .int p4, .int p5, .int p6] below meth c code maxLocals x ret Z n0 T h0 1 4 false (fun vm => IB Z vm [])) :
    oG p e below s n0 32 1216 (fun _ _ => True) (fun v h => v = some (.int 1)) (T.setTop (mkF m 58 #[.val (.int p1), .val (.int p2), .val (.int p3), .val (.int p4), .val (.int p5), .val (.int p6), .val (.int (4 : Int32)), .val (.int (1 : Int32)), .val (.ref a8), .unset, .unset, .unset] [])) := by
  refine o_iload H rfl at_58 rfl ?_
  refine o_aload H rfl rfl at_60 rfl ?_
  refine o_static H [(.int (4 : Int32)), (.ref a8)] [] (rm1_4 l Z a0 hw a8 (fun vm => IB Z vm []) oSt.ib cs fm x0 x1 x2 x3 h0 n0 H.le AV1 hx0 hx1 hx2 hx3 WW) (w3 hw) (w4 hw) (w5 hw) (w6 hw) (by decide) (lenOf pd1 rfl) rfl rfl (by decide) (Nat.le_of_ble_eq_true rfl) (by decide) (by decide) at_62 rfl (fun _ q => q) oSt.ib ?_
  intro T1 v1 h1 H1 q1
  obtain ⟨r1, rfl, K1, T_1⟩ := q1
  have k2 := (Keep.refl h0 []).trans K1 all0
  show oG p e below s n0 _ _ _ _ (T1.setTop (mkF m 65 #[.val (.int p1), .val (.int p2), .val (.int p3), .val (.int p4), .val (.int p5), .val (.int p6), .val (.int (4 : Int32)), .val (.int (1 : Int32)), .val (.ref a8), .unset, .unset, .unset] [(.ref r1)]))
  refine o_astore H1 (L' := #[.val (.int p1), .val (.int p2), .val (.int p3), .val (.int p4), .val (.int p5), .val (.int p6), .val (.int (4 : Int32)), .val (.int (1 : Int32)), .val (.ref a8), .val (.ref r1), .unset, .unset]) rfl rfl at_65 rfl ?_
  refine o_aload H1 rfl rfl at_67 rfl ?_
  refine o_iload H1 rfl at_69 rfl ?_
  refine o_static H1 [(.ref r1), (.int (1 : Int32))] [] (rm5_3 l Z a0 hw r1 (1 : Int32) (fun vm => IB Z vm []) oSt.ib ([x0, x1, x2, x3] : List Int32) 1 cs fm x1 x2 x3 h1 n0 H1.le (WW.ext (o_kext k2)) T_1 (Nat.le_of_ble_eq_true rfl) (show (4 : Nat).toInt32 - (1 : Int32) = (3 : Int32) by decide) (by decide) (by decide) rfl hx1 rfl hx2 rfl hx3) (w28 hw) (w29 hw) (w30 hw) (w31 hw) (by decide) (lenOf pd5 rfl) rfl rfl (by decide) (Nat.le_of_ble_eq_true rfl) (by decide) (by decide) at_71 rfl (fun _ q => q) oSt.ib ?_
  intro T3 v3 h3 H3 q3
  obtain ⟨r3, rfl, K3, T_3⟩ := q3
  have k4 := k2.trans K3 all0
  have f5 := (T_1).exa.keep K3
  have f6 := T_1.ext (o_kext K3)
  show oG p e below s n0 _ _ _ _ (T3.setTop (mkF m 74 #[.val (.int p1), .val (.int p2), .val (.int p3), .val (.int p4), .val (.int p5), .val (.int p6), .val (.int (4 : Int32)), .val (.int (1 : Int32)), .val (.ref a8), .val (.ref r1), .unset, .unset] [(.ref r3)]))
  refine o_astore H3 (L' := #[.val (.int p1), .val (.int p2), .val (.int p3), .val (.int p4), .val (.int p5), .val (.int p6), .val (.int (4 : Int32)), .val (.int (1 : Int32)), .val (.ref a8), .val (.ref r1), .val (.ref r3), .unset]) rfl rfl at_74 rfl ?_
  refine o_iload H3 rfl at_76 rfl ?_
  refine o_iload H3 rfl at_78 rfl ?_
  refine o_isub H3 at_80 rfl ?_
  refine o_fold (3 : Int32) (by decide) ?_
  refine o_istore H3 (L' := #[.val (.int p1), .val (.int p2), .val (.int p3), .val (.int p4), .val (.int p5), .val (.int p6), .val (.int (4 : Int32)), .val (.int (1 : Int32)), .val (.ref a8), .val (.ref r1), .val (.ref r3), .val (.int (3 : Int32))]) rfl at_81 rfl ?_
  refine o_aload H3 rfl rfl at_83 rfl ?_
  refine o_virtual H3 [] [] ((rmLen l Z a0 hw r3 (fun vm => IB Z vm []) oSt.ib ([own_low x1, own_low x2, own_low x3] : List Int32) cs fm h3 n0 H3.le (WW.ext (o_kext k4)) T_3 (Nat.le_of_ble_eq_true rfl)).mono (fun v h q => (⟨q.1, q.2⟩ : v = some (.int (3 : Int32)) ∧ h3 = h))) (T_3).exa (w45 hw) (w33 hw) (o_nf (w35 hw)) (w35 hw) (w34 hw) (w9 hw) (w36 hw) (by decide) (lenOf pd6 rfl) rfl rfl (by decide) (Nat.le_of_ble_eq_true rfl) (by decide) (by decide) at_85 rfl (fun _ q => q) oSt.ib ?_
  intro T7 v7 h7 H7 q7
  obtain ⟨rfl, rfl⟩ := q7
  show oG p e below s n0 _ _ _ _ (T7.setTop (mkF m 88 #[.val (.int p1), .val (.int p2), .val (.int p3), .val (.int p4), .val (.int p5), .val (.int p6), .val (.int (4 : Int32)), .val (.int (1 : Int32)), .val (.ref a8), .val (.ref r1), .val (.ref r3), .val (.int (3 : Int32))] [(.int (3 : Int32))]))
  refine o_iload H7 rfl at_88 rfl ?_
  refine o_icmp_t H7 at_90 (by decide) (pt := 95) (by decide) (by decide) ?_
  refine o_aload H7 rfl rfl at_95 rfl ?_
  refine o_aload H7 rfl rfl at_97 rfl ?_
  refine o_iload H7 rfl at_99 rfl ?_
  refine o_iload H7 rfl at_101 rfl ?_
  refine o_iconst H7 (0 : Int32) rfl at_103 rfl ?_
  refine o_static H7 [(.ref r3), (.ref a8), (.int (1 : Int32)), (.int (3 : Int32)), (.int (0 : Int32))] [] (rm8 l Z a0 hw r3 a8 (1 : Int32) (3 : Int32) (0 : Int32) (fun vm => IB Z vm []) oSt.ib ([own_low x1, own_low x2, own_low x3] : List Int32) [(.int x0), (.int x1), (.int x2), (.int x3)] 0 1 x1 cs fm h3 n0 H7.le (WW.ext (o_kext k4)) T_3 (Nat.le_of_ble_eq_true rfl) (AV1.ext (o_kext k4)) (by decide) (by decide) rfl (by decide) rfl hx1) (w46 hw) (w47 hw) (w5 hw) (w48 hw) (by decide) (lenOf pd8 rfl) rfl rfl (by decide) (Nat.le_of_ble_eq_true rfl) (by decide) (by decide) at_104 rfl (fun _ q => q) oSt.ib ?_
  intro T8 v8 h8 H8 q8
  obtain ⟨rfl, rfl⟩ := q8
  show oG p e below s n0 _ _ _ _ (T8.setTop (mkF m 107 #[.val (.int p1), .val (.int p2), .val (.int p3), .val (.int p4), .val (.int p5), .val (.int p6), .val (.int (4 : Int32)), .val (.int (1 : Int32)), .val (.ref a8), .val (.ref r1), .val (.ref r3), .val (.int (3 : Int32))] [(.int (1 : Int32))]))
  refine o_if_f H8 at_107 (by decide) rfl ?_
  refine o_aload H8 rfl rfl at_110 rfl ?_
  refine o_aload H8 rfl rfl at_112 rfl ?_
  refine o_iload H8 rfl at_114 rfl ?_
  refine o_iload H8 rfl at_116 rfl ?_
  refine o_iconst H8 (1 : Int32) rfl at_118 rfl ?_
  refine o_static H8 [(.ref r3), (.ref a8), (.int (1 : Int32)), (.int (3 : Int32)), (.int (1 : Int32))] [] (rm8 l Z a0 hw r3 a8 (1 : Int32) (3 : Int32) (1 : Int32) (fun vm => IB Z vm []) oSt.ib ([own_low x1, own_low x2, own_low x3] : List Int32) [(.int x0), (.int x1), (.int x2), (.int x3)] 1 2 x2 cs fm h3 n0 H8.le (WW.ext (o_kext k4)) T_3 (Nat.le_of_ble_eq_true rfl) (AV1.ext (o_kext k4)) (by decide) (by decide) rfl (by decide) rfl hx2) (w46 hw) (w47 hw) (w5 hw) (w48 hw) (by decide) (lenOf pd8 rfl) rfl rfl (by decide) (Nat.le_of_ble_eq_true rfl) (by decide) (by decide) at_119 rfl (fun _ q => q) oSt.ib ?_
  intro T9 v9 h9 H9 q9
  obtain ⟨rfl, rfl⟩ := q9
  show oG p e below s n0 _ _ _ _ (T9.setTop (mkF m 122 #[.val (.int p1), .val (.int p2), .val (.int p3), .val (.int p4), .val (.int p5), .val (.int p6), .val (.int (4 : Int32)), .val (.int (1 : Int32)), .val (.ref a8), .val (.ref r1), .val (.ref r3), .val (.int (3 : Int32))] [(.int (1 : Int32))]))
  refine o_if_f H9 at_122 (by decide) rfl ?_
  refine o_aload H9 rfl rfl at_125 rfl ?_
  refine o_aload H9 rfl rfl at_127 rfl ?_
  refine o_iload H9 rfl at_129 rfl ?_
  refine o_iload H9 rfl at_131 rfl ?_
  refine o_iconst H9 (2 : Int32) rfl at_133 rfl ?_
  refine o_static H9 [(.ref r3), (.ref a8), (.int (1 : Int32)), (.int (3 : Int32)), (.int (2 : Int32))] [] (rm8 l Z a0 hw r3 a8 (1 : Int32) (3 : Int32) (2 : Int32) (fun vm => IB Z vm []) oSt.ib ([own_low x1, own_low x2, own_low x3] : List Int32) [(.int x0), (.int x1), (.int x2), (.int x3)] 2 3 x3 cs fm h3 n0 H9.le (WW.ext (o_kext k4)) T_3 (Nat.le_of_ble_eq_true rfl) (AV1.ext (o_kext k4)) (by decide) (by decide) rfl (by decide) rfl hx3) (w46 hw) (w47 hw) (w5 hw) (w48 hw) (by decide) (lenOf pd8 rfl) rfl rfl (by decide) (Nat.le_of_ble_eq_true rfl) (by decide) (by decide) at_134 rfl (fun _ q => q) oSt.ib ?_
  intro T10 v10 h10 H10 q10
  obtain ⟨rfl, rfl⟩ := q10
  show oG p e below s n0 _ _ _ _ (T10.setTop (mkF m 137 #[.val (.int p1), .val (.int p2), .val (.int p3), .val (.int p4), .val (.int p5), .val (.int p6), .val (.int (4 : Int32)), .val (.int (1 : Int32)), .val (.ref a8), .val (.ref r1), .val (.ref r3), .val (.int (3 : Int32))] [(.int (1 : Int32))]))
  refine o_if_f H10 at_137 (by decide) rfl ?_
  refine o_aload H10 rfl rfl at_140 rfl ?_
  refine o_aload H10 rfl rfl at_142 rfl ?_
  refine o_iload H10 rfl at_144 rfl ?_
  refine o_iload H10 rfl at_146 rfl ?_
  refine o_iconst H10 (3 : Int32) rfl at_148 rfl ?_
  refine o_static H10 [(.ref r3), (.ref a8), (.int (1 : Int32)), (.int (3 : Int32)), (.int (3 : Int32))] [] (rm8_N l Z a0 hw r3 a8 (1 : Int32) (3 : Int32) (3 : Int32) (fun vm => IB Z vm []) oSt.ib  h3 n0 H10.le (by decide)) (w46 hw) (w47 hw) (w5 hw) (w48 hw) (by decide) (lenOf pd8 rfl) rfl rfl (by decide) (Nat.le_of_ble_eq_true rfl) (by decide) (by decide) at_149 rfl (fun _ q => q) oSt.ib ?_
  intro T11 v11 h11 H11 q11
  obtain ⟨rfl, rfl⟩ := q11
  show oG p e below s n0 _ _ _ _ (T11.setTop (mkF m 152 #[.val (.int p1), .val (.int p2), .val (.int p3), .val (.int p4), .val (.int p5), .val (.int p6), .val (.int (4 : Int32)), .val (.int (1 : Int32)), .val (.ref a8), .val (.ref r1), .val (.ref r3), .val (.int (3 : Int32))] [(.int (1 : Int32))]))
  refine o_if_f H11 at_152 (by decide) rfl ?_
  refine o_iconst H11 (1 : Int32) rfl at_155 rfl ?_
  refine o_goto H11 at_156 (pt := 160) (by decide) (by decide) ?_
  exact o_nreturn H11 .boolean rfl (by simp) at_160 oSt.ib (fun _ _ => trivial) (by decide) (by decide) rfl
set_option maxRecDepth 65536 in
set_option maxHeartbeats 40000000 in
theorem rmL_4_2 (l : Launch) (Z : State) (a0 : Array Value) (hw : ∀ d ∈ tables_1, d.before a0 Z = true) (p1 p2 p3 p4 p5 p6 x0 x1 x2 x3 : Int32) (a8 : Addr) (cs : Int32) (fm : Value) (h0 : Heap) (n0 : Nat) (AV1 : oA .char Z h0 a8 [(.int x0), (.int x1), (.int x2), (.int x3)]) (hx0 : own_chr x0) (hx1 : own_chr x1) (hx2 : own_chr x2) (hx3 : own_chr x3) (WW : own_W Z h0 cs fm) (hh : Jvm.Lit.constHeld Z "java/lang/String" 7) (hcw : Jvm.Lit.compactW.before a0 Z = true) (E0 : Ext Z.heap h0) (p : Program) (e : Env) (s : State) (m : MethodId) (below : List Frame) (meth : Method) (c : Code) (T : State) (H : oH p l e room_1 s m #[.int p1, .int p2, .int p3, .int p4, .int p5, .int p6] below meth c code maxLocals x ret Z n0 T h0 1 4 false (fun vm => IB Z vm [])) :
    oG p e below s n0 32 1216 (fun _ _ => True) (fun v h => v = some (.int 1)) (T.setTop (mkF m 58 #[.val (.int p1), .val (.int p2), .val (.int p3), .val (.int p4), .val (.int p5), .val (.int p6), .val (.int (4 : Int32)), .val (.int (2 : Int32)), .val (.ref a8), .unset, .unset, .unset] [])) := by
  refine o_iload H rfl at_58 rfl ?_
  refine o_aload H rfl rfl at_60 rfl ?_
  refine o_static H [(.int (4 : Int32)), (.ref a8)] [] (rm1_4 l Z a0 hw a8 (fun vm => IB Z vm []) oSt.ib cs fm x0 x1 x2 x3 h0 n0 H.le AV1 hx0 hx1 hx2 hx3 WW) (w3 hw) (w4 hw) (w5 hw) (w6 hw) (by decide) (lenOf pd1 rfl) rfl rfl (by decide) (Nat.le_of_ble_eq_true rfl) (by decide) (by decide) at_62 rfl (fun _ q => q) oSt.ib ?_
  intro T1 v1 h1 H1 q1
  obtain ⟨r1, rfl, K1, T_1⟩ := q1
  have k2 := (Keep.refl h0 []).trans K1 all0
  show oG p e below s n0 _ _ _ _ (T1.setTop (mkF m 65 #[.val (.int p1), .val (.int p2), .val (.int p3), .val (.int p4), .val (.int p5), .val (.int p6), .val (.int (4 : Int32)), .val (.int (2 : Int32)), .val (.ref a8), .unset, .unset, .unset] [(.ref r1)]))
  refine o_astore H1 (L' := #[.val (.int p1), .val (.int p2), .val (.int p3), .val (.int p4), .val (.int p5), .val (.int p6), .val (.int (4 : Int32)), .val (.int (2 : Int32)), .val (.ref a8), .val (.ref r1), .unset, .unset]) rfl rfl at_65 rfl ?_
  refine o_aload H1 rfl rfl at_67 rfl ?_
  refine o_iload H1 rfl at_69 rfl ?_
  refine o_static H1 [(.ref r1), (.int (2 : Int32))] [] (rm5_2 l Z a0 hw r1 (2 : Int32) (fun vm => IB Z vm []) oSt.ib ([x0, x1, x2, x3] : List Int32) 2 cs fm x2 x3 h1 n0 H1.le (WW.ext (o_kext k2)) T_1 (Nat.le_of_ble_eq_true rfl) (show (4 : Nat).toInt32 - (2 : Int32) = (2 : Int32) by decide) (by decide) (by decide) rfl hx2 rfl hx3) (w28 hw) (w29 hw) (w30 hw) (w31 hw) (by decide) (lenOf pd5 rfl) rfl rfl (by decide) (Nat.le_of_ble_eq_true rfl) (by decide) (by decide) at_71 rfl (fun _ q => q) oSt.ib ?_
  intro T3 v3 h3 H3 q3
  obtain ⟨r3, rfl, K3, T_3⟩ := q3
  have k4 := k2.trans K3 all0
  have f5 := (T_1).exa.keep K3
  have f6 := T_1.ext (o_kext K3)
  show oG p e below s n0 _ _ _ _ (T3.setTop (mkF m 74 #[.val (.int p1), .val (.int p2), .val (.int p3), .val (.int p4), .val (.int p5), .val (.int p6), .val (.int (4 : Int32)), .val (.int (2 : Int32)), .val (.ref a8), .val (.ref r1), .unset, .unset] [(.ref r3)]))
  refine o_astore H3 (L' := #[.val (.int p1), .val (.int p2), .val (.int p3), .val (.int p4), .val (.int p5), .val (.int p6), .val (.int (4 : Int32)), .val (.int (2 : Int32)), .val (.ref a8), .val (.ref r1), .val (.ref r3), .unset]) rfl rfl at_74 rfl ?_
  refine o_iload H3 rfl at_76 rfl ?_
  refine o_iload H3 rfl at_78 rfl ?_
  refine o_isub H3 at_80 rfl ?_
  refine o_fold (2 : Int32) (by decide) ?_
  refine o_istore H3 (L' := #[.val (.int p1), .val (.int p2), .val (.int p3), .val (.int p4), .val (.int p5), .val (.int p6), .val (.int (4 : Int32)), .val (.int (2 : Int32)), .val (.ref a8), .val (.ref r1), .val (.ref r3), .val (.int (2 : Int32))]) rfl at_81 rfl ?_
  refine o_aload H3 rfl rfl at_83 rfl ?_
  refine o_virtual H3 [] [] ((rmLen l Z a0 hw r3 (fun vm => IB Z vm []) oSt.ib ([own_low x2, own_low x3] : List Int32) cs fm h3 n0 H3.le (WW.ext (o_kext k4)) T_3 (Nat.le_of_ble_eq_true rfl)).mono (fun v h q => (⟨q.1, q.2⟩ : v = some (.int (2 : Int32)) ∧ h3 = h))) (T_3).exa (w45 hw) (w33 hw) (o_nf (w35 hw)) (w35 hw) (w34 hw) (w9 hw) (w36 hw) (by decide) (lenOf pd6 rfl) rfl rfl (by decide) (Nat.le_of_ble_eq_true rfl) (by decide) (by decide) at_85 rfl (fun _ q => q) oSt.ib ?_
  intro T7 v7 h7 H7 q7
  obtain ⟨rfl, rfl⟩ := q7
  show oG p e below s n0 _ _ _ _ (T7.setTop (mkF m 88 #[.val (.int p1), .val (.int p2), .val (.int p3), .val (.int p4), .val (.int p5), .val (.int p6), .val (.int (4 : Int32)), .val (.int (2 : Int32)), .val (.ref a8), .val (.ref r1), .val (.ref r3), .val (.int (2 : Int32))] [(.int (2 : Int32))]))
  refine o_iload H7 rfl at_88 rfl ?_
  refine o_icmp_t H7 at_90 (by decide) (pt := 95) (by decide) (by decide) ?_
  refine o_aload H7 rfl rfl at_95 rfl ?_
  refine o_aload H7 rfl rfl at_97 rfl ?_
  refine o_iload H7 rfl at_99 rfl ?_
  refine o_iload H7 rfl at_101 rfl ?_
  refine o_iconst H7 (0 : Int32) rfl at_103 rfl ?_
  refine o_static H7 [(.ref r3), (.ref a8), (.int (2 : Int32)), (.int (2 : Int32)), (.int (0 : Int32))] [] (rm8 l Z a0 hw r3 a8 (2 : Int32) (2 : Int32) (0 : Int32) (fun vm => IB Z vm []) oSt.ib ([own_low x2, own_low x3] : List Int32) [(.int x0), (.int x1), (.int x2), (.int x3)] 0 2 x2 cs fm h3 n0 H7.le (WW.ext (o_kext k4)) T_3 (Nat.le_of_ble_eq_true rfl) (AV1.ext (o_kext k4)) (by decide) (by decide) rfl (by decide) rfl hx2) (w46 hw) (w47 hw) (w5 hw) (w48 hw) (by decide) (lenOf pd8 rfl) rfl rfl (by decide) (Nat.le_of_ble_eq_true rfl) (by decide) (by decide) at_104 rfl (fun _ q => q) oSt.ib ?_
  intro T8 v8 h8 H8 q8
  obtain ⟨rfl, rfl⟩ := q8
  show oG p e below s n0 _ _ _ _ (T8.setTop (mkF m 107 #[.val (.int p1), .val (.int p2), .val (.int p3), .val (.int p4), .val (.int p5), .val (.int p6), .val (.int (4 : Int32)), .val (.int (2 : Int32)), .val (.ref a8), .val (.ref r1), .val (.ref r3), .val (.int (2 : Int32))] [(.int (1 : Int32))]))
  refine o_if_f H8 at_107 (by decide) rfl ?_
  refine o_aload H8 rfl rfl at_110 rfl ?_
  refine o_aload H8 rfl rfl at_112 rfl ?_
  refine o_iload H8 rfl at_114 rfl ?_
  refine o_iload H8 rfl at_116 rfl ?_
  refine o_iconst H8 (1 : Int32) rfl at_118 rfl ?_
  refine o_static H8 [(.ref r3), (.ref a8), (.int (2 : Int32)), (.int (2 : Int32)), (.int (1 : Int32))] [] (rm8 l Z a0 hw r3 a8 (2 : Int32) (2 : Int32) (1 : Int32) (fun vm => IB Z vm []) oSt.ib ([own_low x2, own_low x3] : List Int32) [(.int x0), (.int x1), (.int x2), (.int x3)] 1 3 x3 cs fm h3 n0 H8.le (WW.ext (o_kext k4)) T_3 (Nat.le_of_ble_eq_true rfl) (AV1.ext (o_kext k4)) (by decide) (by decide) rfl (by decide) rfl hx3) (w46 hw) (w47 hw) (w5 hw) (w48 hw) (by decide) (lenOf pd8 rfl) rfl rfl (by decide) (Nat.le_of_ble_eq_true rfl) (by decide) (by decide) at_119 rfl (fun _ q => q) oSt.ib ?_
  intro T9 v9 h9 H9 q9
  obtain ⟨rfl, rfl⟩ := q9
  show oG p e below s n0 _ _ _ _ (T9.setTop (mkF m 122 #[.val (.int p1), .val (.int p2), .val (.int p3), .val (.int p4), .val (.int p5), .val (.int p6), .val (.int (4 : Int32)), .val (.int (2 : Int32)), .val (.ref a8), .val (.ref r1), .val (.ref r3), .val (.int (2 : Int32))] [(.int (1 : Int32))]))
  refine o_if_f H9 at_122 (by decide) rfl ?_
  refine o_aload H9 rfl rfl at_125 rfl ?_
  refine o_aload H9 rfl rfl at_127 rfl ?_
  refine o_iload H9 rfl at_129 rfl ?_
  refine o_iload H9 rfl at_131 rfl ?_
  refine o_iconst H9 (2 : Int32) rfl at_133 rfl ?_
  refine o_static H9 [(.ref r3), (.ref a8), (.int (2 : Int32)), (.int (2 : Int32)), (.int (2 : Int32))] [] (rm8_N l Z a0 hw r3 a8 (2 : Int32) (2 : Int32) (2 : Int32) (fun vm => IB Z vm []) oSt.ib  h3 n0 H9.le (by decide)) (w46 hw) (w47 hw) (w5 hw) (w48 hw) (by decide) (lenOf pd8 rfl) rfl rfl (by decide) (Nat.le_of_ble_eq_true rfl) (by decide) (by decide) at_134 rfl (fun _ q => q) oSt.ib ?_
  intro T10 v10 h10 H10 q10
  obtain ⟨rfl, rfl⟩ := q10
  show oG p e below s n0 _ _ _ _ (T10.setTop (mkF m 137 #[.val (.int p1), .val (.int p2), .val (.int p3), .val (.int p4), .val (.int p5), .val (.int p6), .val (.int (4 : Int32)), .val (.int (2 : Int32)), .val (.ref a8), .val (.ref r1), .val (.ref r3), .val (.int (2 : Int32))] [(.int (1 : Int32))]))
  refine o_if_f H10 at_137 (by decide) rfl ?_
  refine o_aload H10 rfl rfl at_140 rfl ?_
  refine o_aload H10 rfl rfl at_142 rfl ?_
  refine o_iload H10 rfl at_144 rfl ?_
  refine o_iload H10 rfl at_146 rfl ?_
  refine o_iconst H10 (3 : Int32) rfl at_148 rfl ?_
  refine o_static H10 [(.ref r3), (.ref a8), (.int (2 : Int32)), (.int (2 : Int32)), (.int (3 : Int32))] [] (rm8_N l Z a0 hw r3 a8 (2 : Int32) (2 : Int32) (3 : Int32) (fun vm => IB Z vm []) oSt.ib  h3 n0 H10.le (by decide)) (w46 hw) (w47 hw) (w5 hw) (w48 hw) (by decide) (lenOf pd8 rfl) rfl rfl (by decide) (Nat.le_of_ble_eq_true rfl) (by decide) (by decide) at_149 rfl (fun _ q => q) oSt.ib ?_
  intro T11 v11 h11 H11 q11
  obtain ⟨rfl, rfl⟩ := q11
  show oG p e below s n0 _ _ _ _ (T11.setTop (mkF m 152 #[.val (.int p1), .val (.int p2), .val (.int p3), .val (.int p4), .val (.int p5), .val (.int p6), .val (.int (4 : Int32)), .val (.int (2 : Int32)), .val (.ref a8), .val (.ref r1), .val (.ref r3), .val (.int (2 : Int32))] [(.int (1 : Int32))]))
  refine o_if_f H11 at_152 (by decide) rfl ?_
  refine o_iconst H11 (1 : Int32) rfl at_155 rfl ?_
  refine o_goto H11 at_156 (pt := 160) (by decide) (by decide) ?_
  exact o_nreturn H11 .boolean rfl (by simp) at_160 oSt.ib (fun _ _ => trivial) (by decide) (by decide) rfl
set_option maxRecDepth 65536 in
set_option maxHeartbeats 40000000 in
theorem rmL_4_3 (l : Launch) (Z : State) (a0 : Array Value) (hw : ∀ d ∈ tables_1, d.before a0 Z = true) (p1 p2 p3 p4 p5 p6 x0 x1 x2 x3 : Int32) (a8 : Addr) (cs : Int32) (fm : Value) (h0 : Heap) (n0 : Nat) (AV1 : oA .char Z h0 a8 [(.int x0), (.int x1), (.int x2), (.int x3)]) (hx0 : own_chr x0) (hx1 : own_chr x1) (hx2 : own_chr x2) (hx3 : own_chr x3) (WW : own_W Z h0 cs fm) (hh : Jvm.Lit.constHeld Z "java/lang/String" 7) (hcw : Jvm.Lit.compactW.before a0 Z = true) (E0 : Ext Z.heap h0) (p : Program) (e : Env) (s : State) (m : MethodId) (below : List Frame) (meth : Method) (c : Code) (T : State) (H : oH p l e room_1 s m #[.int p1, .int p2, .int p3, .int p4, .int p5, .int p6] below meth c code maxLocals x ret Z n0 T h0 1 4 false (fun vm => IB Z vm [])) :
    oG p e below s n0 32 1216 (fun _ _ => True) (fun v h => v = some (.int 1)) (T.setTop (mkF m 58 #[.val (.int p1), .val (.int p2), .val (.int p3), .val (.int p4), .val (.int p5), .val (.int p6), .val (.int (4 : Int32)), .val (.int (3 : Int32)), .val (.ref a8), .unset, .unset, .unset] [])) := by
  refine o_iload H rfl at_58 rfl ?_
  refine o_aload H rfl rfl at_60 rfl ?_
  refine o_static H [(.int (4 : Int32)), (.ref a8)] [] (rm1_4 l Z a0 hw a8 (fun vm => IB Z vm []) oSt.ib cs fm x0 x1 x2 x3 h0 n0 H.le AV1 hx0 hx1 hx2 hx3 WW) (w3 hw) (w4 hw) (w5 hw) (w6 hw) (by decide) (lenOf pd1 rfl) rfl rfl (by decide) (Nat.le_of_ble_eq_true rfl) (by decide) (by decide) at_62 rfl (fun _ q => q) oSt.ib ?_
  intro T1 v1 h1 H1 q1
  obtain ⟨r1, rfl, K1, T_1⟩ := q1
  have k2 := (Keep.refl h0 []).trans K1 all0
  show oG p e below s n0 _ _ _ _ (T1.setTop (mkF m 65 #[.val (.int p1), .val (.int p2), .val (.int p3), .val (.int p4), .val (.int p5), .val (.int p6), .val (.int (4 : Int32)), .val (.int (3 : Int32)), .val (.ref a8), .unset, .unset, .unset] [(.ref r1)]))
  refine o_astore H1 (L' := #[.val (.int p1), .val (.int p2), .val (.int p3), .val (.int p4), .val (.int p5), .val (.int p6), .val (.int (4 : Int32)), .val (.int (3 : Int32)), .val (.ref a8), .val (.ref r1), .unset, .unset]) rfl rfl at_65 rfl ?_
  refine o_aload H1 rfl rfl at_67 rfl ?_
  refine o_iload H1 rfl at_69 rfl ?_
  refine o_static H1 [(.ref r1), (.int (3 : Int32))] [] (rm5_1 l Z a0 hw r1 (3 : Int32) (fun vm => IB Z vm []) oSt.ib ([x0, x1, x2, x3] : List Int32) 3 cs fm x3 h1 n0 H1.le (WW.ext (o_kext k2)) T_1 (Nat.le_of_ble_eq_true rfl) (show (4 : Nat).toInt32 - (3 : Int32) = (1 : Int32) by decide) (by decide) (by decide) rfl hx3) (w28 hw) (w29 hw) (w30 hw) (w31 hw) (by decide) (lenOf pd5 rfl) rfl rfl (by decide) (Nat.le_of_ble_eq_true rfl) (by decide) (by decide) at_71 rfl (fun _ q => q) oSt.ib ?_
  intro T3 v3 h3 H3 q3
  obtain ⟨r3, rfl, K3, T_3⟩ := q3
  have k4 := k2.trans K3 all0
  have f5 := (T_1).exa.keep K3
  have f6 := T_1.ext (o_kext K3)
  show oG p e below s n0 _ _ _ _ (T3.setTop (mkF m 74 #[.val (.int p1), .val (.int p2), .val (.int p3), .val (.int p4), .val (.int p5), .val (.int p6), .val (.int (4 : Int32)), .val (.int (3 : Int32)), .val (.ref a8), .val (.ref r1), .unset, .unset] [(.ref r3)]))
  refine o_astore H3 (L' := #[.val (.int p1), .val (.int p2), .val (.int p3), .val (.int p4), .val (.int p5), .val (.int p6), .val (.int (4 : Int32)), .val (.int (3 : Int32)), .val (.ref a8), .val (.ref r1), .val (.ref r3), .unset]) rfl rfl at_74 rfl ?_
  refine o_iload H3 rfl at_76 rfl ?_
  refine o_iload H3 rfl at_78 rfl ?_
  refine o_isub H3 at_80 rfl ?_
  refine o_fold (1 : Int32) (by decide) ?_
  refine o_istore H3 (L' := #[.val (.int p1), .val (.int p2), .val (.int p3), .val (.int p4), .val (.int p5), .val (.int p6), .val (.int (4 : Int32)), .val (.int (3 : Int32)), .val (.ref a8), .val (.ref r1), .val (.ref r3), .val (.int (1 : Int32))]) rfl at_81 rfl ?_
  refine o_aload H3 rfl rfl at_83 rfl ?_
  refine o_virtual H3 [] [] ((rmLen l Z a0 hw r3 (fun vm => IB Z vm []) oSt.ib ([own_low x3] : List Int32) cs fm h3 n0 H3.le (WW.ext (o_kext k4)) T_3 (Nat.le_of_ble_eq_true rfl)).mono (fun v h q => (⟨q.1, q.2⟩ : v = some (.int (1 : Int32)) ∧ h3 = h))) (T_3).exa (w45 hw) (w33 hw) (o_nf (w35 hw)) (w35 hw) (w34 hw) (w9 hw) (w36 hw) (by decide) (lenOf pd6 rfl) rfl rfl (by decide) (Nat.le_of_ble_eq_true rfl) (by decide) (by decide) at_85 rfl (fun _ q => q) oSt.ib ?_
  intro T7 v7 h7 H7 q7
  obtain ⟨rfl, rfl⟩ := q7
  show oG p e below s n0 _ _ _ _ (T7.setTop (mkF m 88 #[.val (.int p1), .val (.int p2), .val (.int p3), .val (.int p4), .val (.int p5), .val (.int p6), .val (.int (4 : Int32)), .val (.int (3 : Int32)), .val (.ref a8), .val (.ref r1), .val (.ref r3), .val (.int (1 : Int32))] [(.int (1 : Int32))]))
  refine o_iload H7 rfl at_88 rfl ?_
  refine o_icmp_t H7 at_90 (by decide) (pt := 95) (by decide) (by decide) ?_
  refine o_aload H7 rfl rfl at_95 rfl ?_
  refine o_aload H7 rfl rfl at_97 rfl ?_
  refine o_iload H7 rfl at_99 rfl ?_
  refine o_iload H7 rfl at_101 rfl ?_
  refine o_iconst H7 (0 : Int32) rfl at_103 rfl ?_
  refine o_static H7 [(.ref r3), (.ref a8), (.int (3 : Int32)), (.int (1 : Int32)), (.int (0 : Int32))] [] (rm8 l Z a0 hw r3 a8 (3 : Int32) (1 : Int32) (0 : Int32) (fun vm => IB Z vm []) oSt.ib ([own_low x3] : List Int32) [(.int x0), (.int x1), (.int x2), (.int x3)] 0 3 x3 cs fm h3 n0 H7.le (WW.ext (o_kext k4)) T_3 (Nat.le_of_ble_eq_true rfl) (AV1.ext (o_kext k4)) (by decide) (by decide) rfl (by decide) rfl hx3) (w46 hw) (w47 hw) (w5 hw) (w48 hw) (by decide) (lenOf pd8 rfl) rfl rfl (by decide) (Nat.le_of_ble_eq_true rfl) (by decide) (by decide) at_104 rfl (fun _ q => q) oSt.ib ?_
  intro T8 v8 h8 H8 q8
  obtain ⟨rfl, rfl⟩ := q8
  show oG p e below s n0 _ _ _ _ (T8.setTop (mkF m 107 #[.val (.int p1), .val (.int p2), .val (.int p3), .val (.int p4), .val (.int p5), .val (.int p6), .val (.int (4 : Int32)), .val (.int (3 : Int32)), .val (.ref a8), .val (.ref r1), .val (.ref r3), .val (.int (1 : Int32))] [(.int (1 : Int32))]))
  refine o_if_f H8 at_107 (by decide) rfl ?_
  refine o_aload H8 rfl rfl at_110 rfl ?_
  refine o_aload H8 rfl rfl at_112 rfl ?_
  refine o_iload H8 rfl at_114 rfl ?_
  refine o_iload H8 rfl at_116 rfl ?_
  refine o_iconst H8 (1 : Int32) rfl at_118 rfl ?_
  refine o_static H8 [(.ref r3), (.ref a8), (.int (3 : Int32)), (.int (1 : Int32)), (.int (1 : Int32))] [] (rm8_N l Z a0 hw r3 a8 (3 : Int32) (1 : Int32) (1 : Int32) (fun vm => IB Z vm []) oSt.ib  h3 n0 H8.le (by decide)) (w46 hw) (w47 hw) (w5 hw) (w48 hw) (by decide) (lenOf pd8 rfl) rfl rfl (by decide) (Nat.le_of_ble_eq_true rfl) (by decide) (by decide) at_119 rfl (fun _ q => q) oSt.ib ?_
  intro T9 v9 h9 H9 q9
  obtain ⟨rfl, rfl⟩ := q9
  show oG p e below s n0 _ _ _ _ (T9.setTop (mkF m 122 #[.val (.int p1), .val (.int p2), .val (.int p3), .val (.int p4), .val (.int p5), .val (.int p6), .val (.int (4 : Int32)), .val (.int (3 : Int32)), .val (.ref a8), .val (.ref r1), .val (.ref r3), .val (.int (1 : Int32))] [(.int (1 : Int32))]))
  refine o_if_f H9 at_122 (by decide) rfl ?_
  refine o_aload H9 rfl rfl at_125 rfl ?_
  refine o_aload H9 rfl rfl at_127 rfl ?_
  refine o_iload H9 rfl at_129 rfl ?_
  refine o_iload H9 rfl at_131 rfl ?_
  refine o_iconst H9 (2 : Int32) rfl at_133 rfl ?_
  refine o_static H9 [(.ref r3), (.ref a8), (.int (3 : Int32)), (.int (1 : Int32)), (.int (2 : Int32))] [] (rm8_N l Z a0 hw r3 a8 (3 : Int32) (1 : Int32) (2 : Int32) (fun vm => IB Z vm []) oSt.ib  h3 n0 H9.le (by decide)) (w46 hw) (w47 hw) (w5 hw) (w48 hw) (by decide) (lenOf pd8 rfl) rfl rfl (by decide) (Nat.le_of_ble_eq_true rfl) (by decide) (by decide) at_134 rfl (fun _ q => q) oSt.ib ?_
  intro T10 v10 h10 H10 q10
  obtain ⟨rfl, rfl⟩ := q10
  show oG p e below s n0 _ _ _ _ (T10.setTop (mkF m 137 #[.val (.int p1), .val (.int p2), .val (.int p3), .val (.int p4), .val (.int p5), .val (.int p6), .val (.int (4 : Int32)), .val (.int (3 : Int32)), .val (.ref a8), .val (.ref r1), .val (.ref r3), .val (.int (1 : Int32))] [(.int (1 : Int32))]))
  refine o_if_f H10 at_137 (by decide) rfl ?_
  refine o_aload H10 rfl rfl at_140 rfl ?_
  refine o_aload H10 rfl rfl at_142 rfl ?_
  refine o_iload H10 rfl at_144 rfl ?_
  refine o_iload H10 rfl at_146 rfl ?_
  refine o_iconst H10 (3 : Int32) rfl at_148 rfl ?_
  refine o_static H10 [(.ref r3), (.ref a8), (.int (3 : Int32)), (.int (1 : Int32)), (.int (3 : Int32))] [] (rm8_N l Z a0 hw r3 a8 (3 : Int32) (1 : Int32) (3 : Int32) (fun vm => IB Z vm []) oSt.ib  h3 n0 H10.le (by decide)) (w46 hw) (w47 hw) (w5 hw) (w48 hw) (by decide) (lenOf pd8 rfl) rfl rfl (by decide) (Nat.le_of_ble_eq_true rfl) (by decide) (by decide) at_149 rfl (fun _ q => q) oSt.ib ?_
  intro T11 v11 h11 H11 q11
  obtain ⟨rfl, rfl⟩ := q11
  show oG p e below s n0 _ _ _ _ (T11.setTop (mkF m 152 #[.val (.int p1), .val (.int p2), .val (.int p3), .val (.int p4), .val (.int p5), .val (.int p6), .val (.int (4 : Int32)), .val (.int (3 : Int32)), .val (.ref a8), .val (.ref r1), .val (.ref r3), .val (.int (1 : Int32))] [(.int (1 : Int32))]))
  refine o_if_f H11 at_152 (by decide) rfl ?_
  refine o_iconst H11 (1 : Int32) rfl at_155 rfl ?_
  refine o_goto H11 at_156 (pt := 160) (by decide) (by decide) ?_
  exact o_nreturn H11 .boolean rfl (by simp) at_160 oSt.ib (fun _ _ => trivial) (by decide) (by decide) rfl
set_option maxRecDepth 65536 in
set_option maxHeartbeats 40000000 in
theorem rmL_4_4 (l : Launch) (Z : State) (a0 : Array Value) (hw : ∀ d ∈ tables_1, d.before a0 Z = true) (p1 p2 p3 p4 p5 p6 x0 x1 x2 x3 : Int32) (a8 : Addr) (cs : Int32) (fm : Value) (h0 : Heap) (n0 : Nat) (AV1 : oA .char Z h0 a8 [(.int x0), (.int x1), (.int x2), (.int x3)]) (hx0 : own_chr x0) (hx1 : own_chr x1) (hx2 : own_chr x2) (hx3 : own_chr x3) (WW : own_W Z h0 cs fm) (hh : Jvm.Lit.constHeld Z "java/lang/String" 7) (hcw : Jvm.Lit.compactW.before a0 Z = true) (E0 : Ext Z.heap h0) (p : Program) (e : Env) (s : State) (m : MethodId) (below : List Frame) (meth : Method) (c : Code) (T : State) (H : oH p l e room_1 s m #[.int p1, .int p2, .int p3, .int p4, .int p5, .int p6] below meth c code maxLocals x ret Z n0 T h0 1 4 false (fun vm => IB Z vm [])) :
    oG p e below s n0 32 1216 (fun _ _ => True) (fun v h => v = some (.int 1)) (T.setTop (mkF m 58 #[.val (.int p1), .val (.int p2), .val (.int p3), .val (.int p4), .val (.int p5), .val (.int p6), .val (.int (4 : Int32)), .val (.int (4 : Int32)), .val (.ref a8), .unset, .unset, .unset] [])) := by
  refine o_iload H rfl at_58 rfl ?_
  refine o_aload H rfl rfl at_60 rfl ?_
  refine o_static H [(.int (4 : Int32)), (.ref a8)] [] (rm1_4 l Z a0 hw a8 (fun vm => IB Z vm []) oSt.ib cs fm x0 x1 x2 x3 h0 n0 H.le AV1 hx0 hx1 hx2 hx3 WW) (w3 hw) (w4 hw) (w5 hw) (w6 hw) (by decide) (lenOf pd1 rfl) rfl rfl (by decide) (Nat.le_of_ble_eq_true rfl) (by decide) (by decide) at_62 rfl (fun _ q => q) oSt.ib ?_
  intro T1 v1 h1 H1 q1
  obtain ⟨r1, rfl, K1, T_1⟩ := q1
  have k2 := (Keep.refl h0 []).trans K1 all0
  show oG p e below s n0 _ _ _ _ (T1.setTop (mkF m 65 #[.val (.int p1), .val (.int p2), .val (.int p3), .val (.int p4), .val (.int p5), .val (.int p6), .val (.int (4 : Int32)), .val (.int (4 : Int32)), .val (.ref a8), .unset, .unset, .unset] [(.ref r1)]))
  refine o_astore H1 (L' := #[.val (.int p1), .val (.int p2), .val (.int p3), .val (.int p4), .val (.int p5), .val (.int p6), .val (.int (4 : Int32)), .val (.int (4 : Int32)), .val (.ref a8), .val (.ref r1), .unset, .unset]) rfl rfl at_65 rfl ?_
  refine o_aload H1 rfl rfl at_67 rfl ?_
  refine o_iload H1 rfl at_69 rfl ?_
  refine o_static H1 [(.ref r1), (.int (4 : Int32))] [] (rm5_0 l Z a0 hw r1 (4 : Int32) (fun vm => IB Z vm []) oSt.ib ([x0, x1, x2, x3] : List Int32) 4 cs fm  h1 n0 H1.le (WW.ext (o_kext k2)) T_1 (Nat.le_of_ble_eq_true rfl) (show (4 : Nat).toInt32 - (4 : Int32) = (0 : Int32) by decide) (by decide) (by decide)  hh hcw (Or.inl ⟨fun _ q => q, o_etrans E0 (o_kext k2)⟩)) (w28 hw) (w29 hw) (w30 hw) (w31 hw) (by decide) (lenOf pd5 rfl) rfl rfl (by decide) (Nat.le_of_ble_eq_true rfl) (by decide) (by decide) at_71 rfl (fun _ q => q) oSt.ib ?_
  intro T3 v3 h3 H3 q3
  obtain ⟨r3, rfl, K3, T_3⟩ := q3
  have k4 := k2.trans K3 all0
  have f5 := (T_1).exa.keep K3
  have f6 := T_1.ext (o_kext K3)
  show oG p e below s n0 _ _ _ _ (T3.setTop (mkF m 74 #[.val (.int p1), .val (.int p2), .val (.int p3), .val (.int p4), .val (.int p5), .val (.int p6), .val (.int (4 : Int32)), .val (.int (4 : Int32)), .val (.ref a8), .val (.ref r1), .unset, .unset] [(.ref r3)]))
  refine o_astore H3 (L' := #[.val (.int p1), .val (.int p2), .val (.int p3), .val (.int p4), .val (.int p5), .val (.int p6), .val (.int (4 : Int32)), .val (.int (4 : Int32)), .val (.ref a8), .val (.ref r1), .val (.ref r3), .unset]) rfl rfl at_74 rfl ?_
  refine o_iload H3 rfl at_76 rfl ?_
  refine o_iload H3 rfl at_78 rfl ?_
  refine o_isub H3 at_80 rfl ?_
  refine o_fold (0 : Int32) (by decide) ?_
  refine o_istore H3 (L' := #[.val (.int p1), .val (.int p2), .val (.int p3), .val (.int p4), .val (.int p5), .val (.int p6), .val (.int (4 : Int32)), .val (.int (4 : Int32)), .val (.ref a8), .val (.ref r1), .val (.ref r3), .val (.int (0 : Int32))]) rfl at_81 rfl ?_
  refine o_aload H3 rfl rfl at_83 rfl ?_
  refine o_virtual H3 [] [] ((rmLen l Z a0 hw r3 (fun vm => ∃ ab : Addr × Addr, own_LF Z h3 ab.1 ab.2 ∧ Lit (Z.setVm vm) "java/lang/String" 7 ab.1) own_lj ([] : List Int32) cs fm h3 n0 H3.le (WW.ext (o_kext k4)) T_3 (Nat.le_of_ble_eq_true rfl)).mono (fun v h q => (⟨q.1, q.2⟩ : v = some (.int (0 : Int32)) ∧ h3 = h))) (T_3).exa (w45 hw) (w33 hw) (o_nf (w35 hw)) (w35 hw) (w34 hw) (w9 hw) (w36 hw) (by decide) (lenOf pd6 rfl) rfl rfl (by decide) (Nat.le_of_ble_eq_true rfl) (by decide) (by decide) at_85 rfl (fun _ q => q) own_lj ?_
  intro T7 v7 h7 H7 q7
  obtain ⟨rfl, rfl⟩ := q7
  show oG p e below s n0 _ _ _ _ (T7.setTop (mkF m 88 #[.val (.int p1), .val (.int p2), .val (.int p3), .val (.int p4), .val (.int p5), .val (.int p6), .val (.int (4 : Int32)), .val (.int (4 : Int32)), .val (.ref a8), .val (.ref r1), .val (.ref r3), .val (.int (0 : Int32))] [(.int (0 : Int32))]))
  refine o_iload H7 rfl at_88 rfl ?_
  refine o_icmp_t H7 at_90 (by decide) (pt := 95) (by decide) (by decide) ?_
  refine o_aload H7 rfl rfl at_95 rfl ?_
  refine o_aload H7 rfl rfl at_97 rfl ?_
  refine o_iload H7 rfl at_99 rfl ?_
  refine o_iload H7 rfl at_101 rfl ?_
  refine o_iconst H7 (0 : Int32) rfl at_103 rfl ?_
  refine o_static H7 [(.ref r3), (.ref a8), (.int (4 : Int32)), (.int (0 : Int32)), (.int (0 : Int32))] [] (rm8_N l Z a0 hw r3 a8 (4 : Int32) (0 : Int32) (0 : Int32) (fun vm => ∃ ab : Addr × Addr, own_LF Z h3 ab.1 ab.2 ∧ Lit (Z.setVm vm) "java/lang/String" 7 ab.1) own_lj  h3 n0 H7.le (by decide)) (w46 hw) (w47 hw) (w5 hw) (w48 hw) (by decide) (lenOf pd8 rfl) rfl rfl (by decide) (Nat.le_of_ble_eq_true rfl) (by decide) (by decide) at_104 rfl (fun _ q => q) own_lj ?_
  intro T8 v8 h8 H8 q8
  obtain ⟨rfl, rfl⟩ := q8
  show oG p e below s n0 _ _ _ _ (T8.setTop (mkF m 107 #[.val (.int p1), .val (.int p2), .val (.int p3), .val (.int p4), .val (.int p5), .val (.int p6), .val (.int (4 : Int32)), .val (.int (4 : Int32)), .val (.ref a8), .val (.ref r1), .val (.ref r3), .val (.int (0 : Int32))] [(.int (1 : Int32))]))
  refine o_if_f H8 at_107 (by decide) rfl ?_
  refine o_aload H8 rfl rfl at_110 rfl ?_
  refine o_aload H8 rfl rfl at_112 rfl ?_
  refine o_iload H8 rfl at_114 rfl ?_
  refine o_iload H8 rfl at_116 rfl ?_
  refine o_iconst H8 (1 : Int32) rfl at_118 rfl ?_
  refine o_static H8 [(.ref r3), (.ref a8), (.int (4 : Int32)), (.int (0 : Int32)), (.int (1 : Int32))] [] (rm8_N l Z a0 hw r3 a8 (4 : Int32) (0 : Int32) (1 : Int32) (fun vm => ∃ ab : Addr × Addr, own_LF Z h3 ab.1 ab.2 ∧ Lit (Z.setVm vm) "java/lang/String" 7 ab.1) own_lj  h3 n0 H8.le (by decide)) (w46 hw) (w47 hw) (w5 hw) (w48 hw) (by decide) (lenOf pd8 rfl) rfl rfl (by decide) (Nat.le_of_ble_eq_true rfl) (by decide) (by decide) at_119 rfl (fun _ q => q) own_lj ?_
  intro T9 v9 h9 H9 q9
  obtain ⟨rfl, rfl⟩ := q9
  show oG p e below s n0 _ _ _ _ (T9.setTop (mkF m 122 #[.val (.int p1), .val (.int p2), .val (.int p3), .val (.int p4), .val (.int p5), .val (.int p6), .val (.int (4 : Int32)), .val (.int (4 : Int32)), .val (.ref a8), .val (.ref r1), .val (.ref r3), .val (.int (0 : Int32))] [(.int (1 : Int32))]))
  refine o_if_f H9 at_122 (by decide) rfl ?_
  refine o_aload H9 rfl rfl at_125 rfl ?_
  refine o_aload H9 rfl rfl at_127 rfl ?_
  refine o_iload H9 rfl at_129 rfl ?_
  refine o_iload H9 rfl at_131 rfl ?_
  refine o_iconst H9 (2 : Int32) rfl at_133 rfl ?_
  refine o_static H9 [(.ref r3), (.ref a8), (.int (4 : Int32)), (.int (0 : Int32)), (.int (2 : Int32))] [] (rm8_N l Z a0 hw r3 a8 (4 : Int32) (0 : Int32) (2 : Int32) (fun vm => ∃ ab : Addr × Addr, own_LF Z h3 ab.1 ab.2 ∧ Lit (Z.setVm vm) "java/lang/String" 7 ab.1) own_lj  h3 n0 H9.le (by decide)) (w46 hw) (w47 hw) (w5 hw) (w48 hw) (by decide) (lenOf pd8 rfl) rfl rfl (by decide) (Nat.le_of_ble_eq_true rfl) (by decide) (by decide) at_134 rfl (fun _ q => q) own_lj ?_
  intro T10 v10 h10 H10 q10
  obtain ⟨rfl, rfl⟩ := q10
  show oG p e below s n0 _ _ _ _ (T10.setTop (mkF m 137 #[.val (.int p1), .val (.int p2), .val (.int p3), .val (.int p4), .val (.int p5), .val (.int p6), .val (.int (4 : Int32)), .val (.int (4 : Int32)), .val (.ref a8), .val (.ref r1), .val (.ref r3), .val (.int (0 : Int32))] [(.int (1 : Int32))]))
  refine o_if_f H10 at_137 (by decide) rfl ?_
  refine o_aload H10 rfl rfl at_140 rfl ?_
  refine o_aload H10 rfl rfl at_142 rfl ?_
  refine o_iload H10 rfl at_144 rfl ?_
  refine o_iload H10 rfl at_146 rfl ?_
  refine o_iconst H10 (3 : Int32) rfl at_148 rfl ?_
  refine o_static H10 [(.ref r3), (.ref a8), (.int (4 : Int32)), (.int (0 : Int32)), (.int (3 : Int32))] [] (rm8_N l Z a0 hw r3 a8 (4 : Int32) (0 : Int32) (3 : Int32) (fun vm => ∃ ab : Addr × Addr, own_LF Z h3 ab.1 ab.2 ∧ Lit (Z.setVm vm) "java/lang/String" 7 ab.1) own_lj  h3 n0 H10.le (by decide)) (w46 hw) (w47 hw) (w5 hw) (w48 hw) (by decide) (lenOf pd8 rfl) rfl rfl (by decide) (Nat.le_of_ble_eq_true rfl) (by decide) (by decide) at_149 rfl (fun _ q => q) own_lj ?_
  intro T11 v11 h11 H11 q11
  obtain ⟨rfl, rfl⟩ := q11
  show oG p e below s n0 _ _ _ _ (T11.setTop (mkF m 152 #[.val (.int p1), .val (.int p2), .val (.int p3), .val (.int p4), .val (.int p5), .val (.int p6), .val (.int (4 : Int32)), .val (.int (4 : Int32)), .val (.ref a8), .val (.ref r1), .val (.ref r3), .val (.int (0 : Int32))] [(.int (1 : Int32))]))
  refine o_if_f H11 at_152 (by decide) rfl ?_
  refine o_iconst H11 (1 : Int32) rfl at_155 rfl ?_
  refine o_goto H11 at_156 (pt := 160) (by decide) (by decide) ?_
  exact o_nreturn H11 .boolean rfl (by simp) at_160 own_lj (fun _ _ => trivial) (by decide) (by decide) rfl
theorem own_r5 (a : Int32) : 0 ≤ ((a &&& 2147483647) % 5).toInt ∧ ((a &&& 2147483647) % 5).toInt < 5 := by
  have h := (n_and a 2147483647 (by decide)).1
  rw [n_rem _ 5 5 (by decide) rfl h]; omega
theorem own_rk (a : Int32) {k : Nat} {z : Int32} (hk : 0 < k) (hz : z.toInt = (k : Int)) : 0 ≤ ((a &&& 2147483647) % z).toInt ∧ ((a &&& 2147483647) % z).toInt < k := by
  have h := (n_and a 2147483647 (by decide)).1
  rw [n_rem _ z k (by omega) hz h]
  exact ⟨Int.emod_nonneg _ (by omega), Int.emod_lt_of_pos _ (by omega)⟩
theorem own_k1 {z : Int32} (h : 0 ≤ z.toInt ∧ z.toInt < 5) : ¬ z + 1 = 0 := by
  have e1 : (1 : Int32).toInt = 1 := rfl; have e0 : (0 : Int32).toInt = 0 := rfl
  rw [n_eq, Int32.toInt_add, e1, e0]; rw [Int.bmod_eq_of_le] <;> omega
set_option maxRecDepth 65536 in
set_option maxHeartbeats 40000000 in
theorem rm0 (l : Launch) (Z : State) (a0 : Array Value) (hw : ∀ d ∈ tables_1, d.before a0 Z = true) (p1 : Int32) (p2 : Int32) (p3 : Int32) (p4 : Int32) (p5 : Int32) (p6 : Int32) (cs : Int32) (fm : Value) (h0 : Heap) (n0 : Nat) (Z0 : n0 ≤ h0.size) (WW : own_W Z h0 cs fm) (hh : Jvm.Lit.constHeld Z "java/lang/String" 7) (hcw : Jvm.Lit.compactW.before a0 Z = true) (E0 : Ext Z.heap h0) :
    oC l Z n0 (fun vm => IB Z vm []) (fun _ _ => True) x code maxLocals ret room_1 32 1216 #[(.int p1), (.int p2), (.int p3), (.int p4), (.int p5), (.int p6)] h0 (fun v h => v = some (.int 1)) := by
  refine oC.of (b := false) (L := #[.val (.int p1), .val (.int p2), .val (.int p3), .val (.int p4), .val (.int p5), .val (.int p6), .unset, .unset, .unset, .unset, .unset, .unset]) pn0 Z0 (fun q => (nomatch q)) (fun m => by first | (simp [entryFrame, mkF, argsToLocals, Value.category, maxLocals]; done) | rfl) ?_
  intro p e s m below meth c T H
  refine o_iload H rfl at_0 rfl ?_
  refine o_ldcI H (2147483647 : Int32) (w0 hw) at_2 rfl ?_
  refine o_iand H at_4 rfl ?_
  refine o_iconst H (5 : Int32) rfl at_5 rfl ?_
  refine o_irem H (by decide) at_6 rfl ?_
  refine o_istore H (L' := #[.val (.int p1), .val (.int p2), .val (.int p3), .val (.int p4), .val (.int p5), .val (.int p6), .val (.int ((p5 &&& (2147483647 : Int32)) % (5 : Int32))), .unset, .unset, .unset, .unset, .unset]) rfl at_7 rfl ?_
  obtain ⟨kn, e_kn⟩ : ∃ z : Int32, z = ((p5 &&& (2147483647 : Int32)) % (5 : Int32)) := ⟨_, rfl⟩
  rw [← e_kn]
  have r_kn := own_r5 p5
  rw [← e_kn] at r_kn
  refine o_iload H rfl at_9 rfl ?_
  refine o_ldcI H (2147483647 : Int32) (w0 hw) at_11 rfl ?_
  refine o_iand H at_13 rfl ?_
  refine o_iload H rfl at_14 rfl ?_
  refine o_iconst H (1 : Int32) rfl at_16 rfl ?_
  refine o_iadd H at_17 rfl ?_
  refine o_irem H (own_k1 r_kn) at_18 rfl ?_
  refine o_istore H (L' := #[.val (.int p1), .val (.int p2), .val (.int p3), .val (.int p4), .val (.int p5), .val (.int p6), .val (.int kn), .val (.int ((p6 &&& (2147483647 : Int32)) % (kn + (1 : Int32)))), .unset, .unset, .unset, .unset]) rfl at_19 rfl ?_
  obtain ⟨ks, e_ks⟩ : ∃ z : Int32, z = ((p6 &&& (2147483647 : Int32)) % (kn + (1 : Int32))) := ⟨_, rfl⟩
  rw [← e_ks]
  refine o_iconst H (4 : Int32) rfl at_21 rfl ?_
  refine o_newarr (aty := .char) H 4 4 (w1 hw) (by decide) (by decide) (by decide) at_22 rfl (by decide) (by decide) ?_
  intro T1 h1 b1 g1 H1 E1 A1
  have z1 : n0 ≤ b1 := by rw [g1]; exact H.le
  have y1 : h0.size ≤ b1 := by rw [g1]; exact (Keep.refl h0 []).1
  have k2 := (Keep.refl h0 []).ext E1
  have f3 : oA .char Z h1 b1 [(.int 0), (.int 0), (.int 0), (.int 0)] := A1
  refine o_dup H1 rfl at_24 rfl ?_
  refine o_iconst H1 (0 : Int32) rfl at_25 rfl ?_
  refine o_iloadN H1 rfl at_26 rfl ?_
  refine o_ldcI H1 (65535 : Int32) (w2 hw) at_27 rfl ?_
  refine o_iand H1 at_29 rfl ?_
  refine o_i2c H1 at_30 rfl ?_
  refine o_castore H1 0 f3 (by decide) (Nat.le_of_ble_eq_true rfl) z1 at_31 rfl ?_
  intro T4 h4 H4 W4 A4
  have k5 := k2.wr W4 (Or.inr y1)
  have f6 : oA .char Z h4 b1 [(.int (nar .char ((p1 &&& (65535 : Int32)).toUInt32.toUInt16.toUInt32.toInt32))), (.int 0), (.int 0), (.int 0)] := A4
  refine o_dup H4 rfl at_32 rfl ?_
  refine o_iconst H4 (1 : Int32) rfl at_33 rfl ?_
  refine o_iloadN H4 rfl at_34 rfl ?_
  refine o_ldcI H4 (65535 : Int32) (w2 hw) at_35 rfl ?_
  refine o_iand H4 at_37 rfl ?_
  refine o_i2c H4 at_38 rfl ?_
  refine o_castore H4 1 f6 (by decide) (Nat.le_of_ble_eq_true rfl) z1 at_39 rfl ?_
  intro T7 h7 H7 W7 A7
  have k8 := k5.wr W7 (Or.inr y1)
  have f9 : oA .char Z h7 b1 [(.int (nar .char ((p1 &&& (65535 : Int32)).toUInt32.toUInt16.toUInt32.toInt32))), (.int (nar .char ((p2 &&& (65535 : Int32)).toUInt32.toUInt16.toUInt32.toInt32))), (.int 0), (.int 0)] := A7
  refine o_dup H7 rfl at_40 rfl ?_
  refine o_iconst H7 (2 : Int32) rfl at_41 rfl ?_
  refine o_iloadN H7 rfl at_42 rfl ?_
  refine o_ldcI H7 (65535 : Int32) (w2 hw) at_43 rfl ?_
  refine o_iand H7 at_45 rfl ?_
  refine o_i2c H7 at_46 rfl ?_
  refine o_castore H7 2 f9 (by decide) (Nat.le_of_ble_eq_true rfl) z1 at_47 rfl ?_
  intro T10 h10 H10 W10 A10
  have k11 := k8.wr W10 (Or.inr y1)
  have f12 : oA .char Z h10 b1 [(.int (nar .char ((p1 &&& (65535 : Int32)).toUInt32.toUInt16.toUInt32.toInt32))), (.int (nar .char ((p2 &&& (65535 : Int32)).toUInt32.toUInt16.toUInt32.toInt32))), (.int (nar .char ((p3 &&& (65535 : Int32)).toUInt32.toUInt16.toUInt32.toInt32))), (.int 0)] := A10
  refine o_dup H10 rfl at_48 rfl ?_
  refine o_iconst H10 (3 : Int32) rfl at_49 rfl ?_
  refine o_iloadN H10 rfl at_50 rfl ?_
  refine o_ldcI H10 (65535 : Int32) (w2 hw) at_51 rfl ?_
  refine o_iand H10 at_53 rfl ?_
  refine o_i2c H10 at_54 rfl ?_
  refine o_castore H10 3 f12 (by decide) (Nat.le_of_ble_eq_true rfl) z1 at_55 rfl ?_
  intro T13 h13 H13 W13 A13
  have k14 := k11.wr W13 (Or.inr y1)
  have f15 : oA .char Z h13 b1 [(.int (nar .char ((p1 &&& (65535 : Int32)).toUInt32.toUInt16.toUInt32.toInt32))), (.int (nar .char ((p2 &&& (65535 : Int32)).toUInt32.toUInt16.toUInt32.toInt32))), (.int (nar .char ((p3 &&& (65535 : Int32)).toUInt32.toUInt16.toUInt32.toInt32))), (.int (nar .char ((p4 &&& (65535 : Int32)).toUInt32.toUInt16.toUInt32.toInt32)))] := A13
  refine o_astore H13 (L' := #[.val (.int p1), .val (.int p2), .val (.int p3), .val (.int p4), .val (.int p5), .val (.int p6), .val (.int kn), .val (.int ks), .val (.ref b1), .unset, .unset, .unset]) rfl rfl at_56 rfl ?_
  have hx0 := own_i2c (p1 &&& (65535 : Int32))
  have hx1 := own_i2c (p2 &&& (65535 : Int32))
  have hx2 := own_i2c (p3 &&& (65535 : Int32))
  have hx3 := own_i2c (p4 &&& (65535 : Int32))
  have AX := f15
  rw [own_narc hx0, own_narc hx1, own_narc hx2, own_narc hx3] at AX
  obtain ⟨⟨i, hi⟩, rfl⟩ := n_nat kn 5 r_kn.1 r_kn.2
  have ci : i = 0 ∨ i = 1 ∨ i = 2 ∨ i = 3 ∨ i = 4 := by omega
  rcases ci with rfl | rfl | rfl | rfl | rfl
  · have r_ks := own_rk p6 (k := 1) (z := Int32.ofNat 0 + 1) (by decide) (by decide)
    rw [show (p6 &&& 2147483647) % (Int32.ofNat 0 + 1) = ks from e_ks.symm] at r_ks
    obtain ⟨⟨j, hj⟩, rfl⟩ := n_nat ks 1 r_ks.1 r_ks.2
    have cj : j = 0 := by omega
    rcases cj with rfl
    · exact rmL_0_0 l Z a0 hw p1 p2 p3 p4 p5 p6 _ _ _ _ b1 cs fm h13 n0 AX hx0 hx1 hx2 hx3 (WW.ext (o_kext k14)) hh hcw (o_etrans E0 (o_kext k14)) p e s m below meth c _ H13
  · have r_ks := own_rk p6 (k := 2) (z := Int32.ofNat 1 + 1) (by decide) (by decide)
    rw [show (p6 &&& 2147483647) % (Int32.ofNat 1 + 1) = ks from e_ks.symm] at r_ks
    obtain ⟨⟨j, hj⟩, rfl⟩ := n_nat ks 2 r_ks.1 r_ks.2
    have cj : j = 0 ∨ j = 1 := by omega
    rcases cj with rfl | rfl
    · exact rmL_1_0 l Z a0 hw p1 p2 p3 p4 p5 p6 _ _ _ _ b1 cs fm h13 n0 AX hx0 hx1 hx2 hx3 (WW.ext (o_kext k14)) hh hcw (o_etrans E0 (o_kext k14)) p e s m below meth c _ H13
    · exact rmL_1_1 l Z a0 hw p1 p2 p3 p4 p5 p6 _ _ _ _ b1 cs fm h13 n0 AX hx0 hx1 hx2 hx3 (WW.ext (o_kext k14)) hh hcw (o_etrans E0 (o_kext k14)) p e s m below meth c _ H13
  · have r_ks := own_rk p6 (k := 3) (z := Int32.ofNat 2 + 1) (by decide) (by decide)
    rw [show (p6 &&& 2147483647) % (Int32.ofNat 2 + 1) = ks from e_ks.symm] at r_ks
    obtain ⟨⟨j, hj⟩, rfl⟩ := n_nat ks 3 r_ks.1 r_ks.2
    have cj : j = 0 ∨ j = 1 ∨ j = 2 := by omega
    rcases cj with rfl | rfl | rfl
    · exact rmL_2_0 l Z a0 hw p1 p2 p3 p4 p5 p6 _ _ _ _ b1 cs fm h13 n0 AX hx0 hx1 hx2 hx3 (WW.ext (o_kext k14)) hh hcw (o_etrans E0 (o_kext k14)) p e s m below meth c _ H13
    · exact rmL_2_1 l Z a0 hw p1 p2 p3 p4 p5 p6 _ _ _ _ b1 cs fm h13 n0 AX hx0 hx1 hx2 hx3 (WW.ext (o_kext k14)) hh hcw (o_etrans E0 (o_kext k14)) p e s m below meth c _ H13
    · exact rmL_2_2 l Z a0 hw p1 p2 p3 p4 p5 p6 _ _ _ _ b1 cs fm h13 n0 AX hx0 hx1 hx2 hx3 (WW.ext (o_kext k14)) hh hcw (o_etrans E0 (o_kext k14)) p e s m below meth c _ H13
  · have r_ks := own_rk p6 (k := 4) (z := Int32.ofNat 3 + 1) (by decide) (by decide)
    rw [show (p6 &&& 2147483647) % (Int32.ofNat 3 + 1) = ks from e_ks.symm] at r_ks
    obtain ⟨⟨j, hj⟩, rfl⟩ := n_nat ks 4 r_ks.1 r_ks.2
    have cj : j = 0 ∨ j = 1 ∨ j = 2 ∨ j = 3 := by omega
    rcases cj with rfl | rfl | rfl | rfl
    · exact rmL_3_0 l Z a0 hw p1 p2 p3 p4 p5 p6 _ _ _ _ b1 cs fm h13 n0 AX hx0 hx1 hx2 hx3 (WW.ext (o_kext k14)) hh hcw (o_etrans E0 (o_kext k14)) p e s m below meth c _ H13
    · exact rmL_3_1 l Z a0 hw p1 p2 p3 p4 p5 p6 _ _ _ _ b1 cs fm h13 n0 AX hx0 hx1 hx2 hx3 (WW.ext (o_kext k14)) hh hcw (o_etrans E0 (o_kext k14)) p e s m below meth c _ H13
    · exact rmL_3_2 l Z a0 hw p1 p2 p3 p4 p5 p6 _ _ _ _ b1 cs fm h13 n0 AX hx0 hx1 hx2 hx3 (WW.ext (o_kext k14)) hh hcw (o_etrans E0 (o_kext k14)) p e s m below meth c _ H13
    · exact rmL_3_3 l Z a0 hw p1 p2 p3 p4 p5 p6 _ _ _ _ b1 cs fm h13 n0 AX hx0 hx1 hx2 hx3 (WW.ext (o_kext k14)) hh hcw (o_etrans E0 (o_kext k14)) p e s m below meth c _ H13
  · have r_ks := own_rk p6 (k := 5) (z := Int32.ofNat 4 + 1) (by decide) (by decide)
    rw [show (p6 &&& 2147483647) % (Int32.ofNat 4 + 1) = ks from e_ks.symm] at r_ks
    obtain ⟨⟨j, hj⟩, rfl⟩ := n_nat ks 5 r_ks.1 r_ks.2
    have cj : j = 0 ∨ j = 1 ∨ j = 2 ∨ j = 3 ∨ j = 4 := by omega
    rcases cj with rfl | rfl | rfl | rfl | rfl
    · exact rmL_4_0 l Z a0 hw p1 p2 p3 p4 p5 p6 _ _ _ _ b1 cs fm h13 n0 AX hx0 hx1 hx2 hx3 (WW.ext (o_kext k14)) hh hcw (o_etrans E0 (o_kext k14)) p e s m below meth c _ H13
    · exact rmL_4_1 l Z a0 hw p1 p2 p3 p4 p5 p6 _ _ _ _ b1 cs fm h13 n0 AX hx0 hx1 hx2 hx3 (WW.ext (o_kext k14)) hh hcw (o_etrans E0 (o_kext k14)) p e s m below meth c _ H13
    · exact rmL_4_2 l Z a0 hw p1 p2 p3 p4 p5 p6 _ _ _ _ b1 cs fm h13 n0 AX hx0 hx1 hx2 hx3 (WW.ext (o_kext k14)) hh hcw (o_etrans E0 (o_kext k14)) p e s m below meth c _ H13
    · exact rmL_4_3 l Z a0 hw p1 p2 p3 p4 p5 p6 _ _ _ _ b1 cs fm h13 n0 AX hx0 hx1 hx2 hx3 (WW.ext (o_kext k14)) hh hcw (o_etrans E0 (o_kext k14)) p e s m below meth c _ H13
    · exact rmL_4_4 l Z a0 hw p1 p2 p3 p4 p5 p6 _ _ _ _ b1 cs fm h13 n0 AX hx0 hx1 hx2 hx3 (WW.ext (o_kext k14)) hh hcw (o_etrans E0 (o_kext k14)) p e s m below meth c _ H13
set_option maxRecDepth 65536 in
set_option maxHeartbeats 40000000 in
theorem comes_1 {Post : Tables → Env → Array Value → State → Outcome → State → Prop} (hpost : ∀ tb e args s v u, (limb_1_1.after args s (.returned v) u = true ∧ limb_1_2.after args s (.returned v) u = true ∧ True) → ReturnedEndW s (.returned v) u (Jvm.fieldLocs frame_1_writes args s ++ Jvm.arrayLocs frame_1_arrays args s ++ Jvm.staticLocs frame_1_statics s) 32 1216 → Post tb e args s (.returned v) u) :
    ArmFor flags0 classFile x code maxLocals ret World_1 tables_1 room_1 Calls_1 rest_1 Pre_1 Post := by
  intro l hfl _ _ p e ha hc hk s m args below hf hA hF happ hP
  obtain ⟨hcalls, hrest, hpre⟩ := hP
  obtain ⟨-, -, -, hnamed, -, -, -, hat⟩ := (Spec.applies_iff hf).mp happ
  obtain ⟨hg, hn⟩ := and_e (Cond.before_iff.mp (show (Jvm.Cond.and given_1 narrow_1).before args s = true from hpre))
  obtain ⟨g0, gs0⟩ := and_e hg
  obtain ⟨a0, gs1⟩ := and_e gs0
  obtain ⟨a1, gs2⟩ := and_e gs1
  obtain ⟨a2, gs3⟩ := and_e gs2
  obtain ⟨a3, gs4⟩ := and_e gs3
  obtain ⟨a4, gs5⟩ := and_e gs4
  have a5 := gs5
  obtain ⟨w0, w1, w2, w3, w4, w5, rfl⟩ : ∃ w0 w1 w2 w3 w4 w5 : Value, args = #[w0, w1, w2, w3, w4, w5] := by
    have hs : args.size = 6 := by simpa [Cond.value, given_1] using g0
    obtain ⟨L⟩ := args
    match L, hs with
    | [w0, w1, w2, w3, w4, w5], _ => exact ⟨w0, w1, w2, w3, w4, w5, rfl⟩
  have hw := fun d (hd : d ∈ tables_1) => atoms_spec (ws := Jvm.Cond.code x code maxLocals ret :: tables_1) hat d (List.mem_cons_of_mem _ hd)
  have hfit : Fit s := fun {y c} hc i hi => by
    obtain ⟨ha, rfl⟩ := Array.getElem?_eq_some_iff.mp hc
    have q := List.all_eq_true.mp ((Array.all_eq_true_iff_forall_mem.mp hF) _ (Array.getElem_mem ha)) i (List.mem_range.mpr hi)
    simpa [Array.getElem?_eq_getElem hi] using q
  obtain ⟨i0, e0⟩ := is_v a0
  obtain rfl : w0 = (.int i0) := Option.some.inj e0
  obtain ⟨i1, e1⟩ := is_v a1
  obtain rfl : w1 = (.int i1) := Option.some.inj e1
  obtain ⟨i2, e2⟩ := is_v a2
  obtain rfl : w2 = (.int i2) := Option.some.inj e2
  obtain ⟨i3, e3⟩ := is_v a3
  obtain rfl : w3 = (.int i3) := Option.some.inj e3
  obtain ⟨i4, e4⟩ := is_v a4
  obtain rfl : w4 = (.int i4) := Option.some.inj e4
  obtain ⟨i5, e5⟩ := is_v a5
  obtain rfl : w5 = (.int i5) := Option.some.inj e5
  obtain ⟨hsets, hown0⟩ := atoms_of _ (rest_1_c_eq ▸ (show rest_1_c.before _ s = true from hrest))
  have n3 := not_v (Cond.before_iff.mp (hsets _ (List.mem_of_getElem? (i := 2) rfl)))
  obtain ⟨cs, ec⟩ := is_v (Cond.before_iff.mp (hsets _ (List.mem_of_getElem? (i := 1) rfl)))
  have S_c : Sta s s.heap "java/lang/String" "COMPACT_STRINGS" "Z" (.int cs) := Sta.start ec (Or.inl (hsets _ (List.mem_of_getElem? (i := 0) rfl)))
  have hcs : ¬ (cs = (0 : Int32)) := gotF (Cond.eq_ints ec (Term.int_eval (0))) n3
  obtain ⟨fm, ef, hfm⟩ := isR_v (Cond.before_iff.mp (hsets _ (List.mem_of_getElem? (i := 8) rfl)))
  have S_f : Sta s s.heap "jdk/internal/util/Preconditions" "SIOOBE_FORMATTER" "Ljava/util/function/BiFunction;" fm := Sta.start ef (Or.inl (hsets _ (List.mem_of_getElem? (i := 7) rfl)))
  have S_12 : Sta s s.heap "java/lang/StringUTF16" "$assertionsDisabled" "Z" (.int 1) := Sta.start (eqv_i (Term.int_eval 1) (Cond.before_iff.mp (hsets _ (List.mem_of_getElem? (i := 12) rfl)))) (Or.inl (hsets _ (List.mem_of_getElem? (i := 11) rfl)))
  have S_15 : Sta s s.heap "java/lang/StringUTF16" "HI_BYTE_SHIFT" "I" (.int 0) := Sta.start (eqv_i (Term.int_eval 0) (Cond.before_iff.mp (hsets _ (List.mem_of_getElem? (i := 15) rfl)))) (Or.inl (hsets _ (List.mem_of_getElem? (i := 14) rfl)))
  have S_18 : Sta s s.heap "java/lang/StringUTF16" "LO_BYTE_SHIFT" "I" (.int 8) := Sta.start (eqv_i (Term.int_eval 8) (Cond.before_iff.mp (hsets _ (List.mem_of_getElem? (i := 18) rfl)))) (Or.inl (hsets _ (List.mem_of_getElem? (i := 17) rfl)))
  have WW : own_W s s.heap cs fm := ⟨S_c, hcs, S_f, hfm, S_12, S_15, S_18⟩
  have hh : Jvm.Lit.constHeld s "java/lang/String" 7 := hcalls.1 ("java/lang/String", 7) (by simp [consts_1])
  obtain ⟨n, o, h1, h2, h3, _, L, rfl, ⟨rfl, N, -⟩, hq⟩ := rm0 l s _ hw i0 i1 i2 i3 i4 i5 cs fm s.heap s.heap.size (Nat.le_refl _) WW hh (hsets _ (List.mem_of_getElem? (i := 2) rfl)) ⟨Nat.le_refl _, fun _ _ q => q⟩ tables_1 p e ha hc hk s m _ below hf ((Spec.applies_iff_loose hf).mp happ).1 ⟨rfl, State.Warmed39.refl s, rfl, IB.start⟩ trivial
  refine ⟨n, _, h1, h2, h3, hpost _ _ _ _ _ _ ⟨Cond.after_iff.mpr rfl, Cond.after_iff.mpr (eq_i res_at (Term.int_eval (1)) rfl), trivial⟩ ⟨hq.1, hq.2.1, hq.2.2.1, (hq.2.2.2.sift fun y hy => Or.inr (N y hy)).mono (by decide) (by decide)⟩⟩
theorem main_1_1 : Claimed_1_1 := comes_1 fun _ _ _ _ _ _ h hF => ⟨h.1, hF⟩
theorem main_1_2 : Claimed_1_2 := comes_1 fun _ _ _ _ _ _ h hF => ⟨h.2.1, hF⟩
end Jvm.Pilot.@@N@@
namespace Jvm.Pilot.@@N@@
open Jvm Jvm.ClassFile Sem Op Lib Jvm.Free Jvm.Stand Jvm.Pilot.@@N@@.Jvm.D
/-! MADE BY PROGRAM (witnessworld.py) out of the Statement's table words and the real class files: 20 classes; the members and pool entries that the words name. The judged class is class 1, her method 1. -/
namespace start1
open Jvm.ClassFile
def u (s : String) : CpInfo := .utf8 (stringToUtf16 s)
/-- a pool by its gaps: so many unusable entries, then the entry; so many at the end -/
def gap : Nat → List CpInfo → List CpInfo
  | 0, r => r
  | n + 1, r => .unusable :: gap n r
def poolList (es : List (Nat × CpInfo)) (last : Nat) : List CpInfo := es.foldr (fun e r => gap e.1 (e.2 :: r)) (gap last [])
def pool (es : List (Nat × CpInfo)) (last : Nat) : Array CpInfo := ⟨poolList es last⟩
def fileOf (pool : Array CpInfo) (this : Nat) (attrs : Array Attribute := #[]) (ms : Array MethodInfo := #[]) (fl : Nat := 33) (sup : Nat := 0) (ifs : Array Nat := #[]) (fds : Array FieldInfo := #[]) : ClassFile where
  minorVersion := 0
  majorVersion := 65
  constantPool := pool
  accessFlags := fl
  thisClass := this
  superClass := sup
  interfaces := ifs
  fields := fds
  methods := ms
  attributes := attrs
def plain (name : String) (sup : Option ClassId) : Class where
  name := name
  kind := .ordinary
  loader := none
  accessFlags := 33
  super := sup
  interfaces := #[]
  cf := none
  fields := #[]
  methods := #[]
  instanceTypes := #[]
  staticTypes := #[]
  resolved := #[]
  callSites := []
  init := .initialized
  statics := none
  mirror := none

def pool0 : Array CpInfo := pool [(5, u "<init>"), (0, u "()V"), (1, .class_ 10), (1, u "java/lang/Object")] 113

def k0c0 : Code := { maxStack := 0, maxLocals := 1, code := object_method_1_code, exceptionTable := #[], attributes := #[] }
def k0m0 : Method := { name := "<init>", desc := "()V", sig := { parameters := [], returnType := none }, accessFlags := 1, code := some k0c0 }
/-- java/lang/Object -/
def k0 : Class := { plain "java/lang/Object" none with
  accessFlags := 33
  interfaces := #[]
  cf := some (fileOf pool0 8 #[] #[{ accessFlags := 1, nameIndex := 5, descriptorIndex := 6, attributes := #[] }] 33 0 #[] #[])
  fields := #[]
  methods := #[k0m0]
  instanceTypes := #[]
  staticTypes := #[]
  resolved := Array.replicate 124 none
  statics := none }

def pool1 : Array CpInfo := pool [(2, .class_ 4), (1, u "java/lang/Object"), (0, u "<init>"), (0, u "()V"), (0, .integer 2147483647), (0, .integer 65535), (0, .methodref 10 11), (0, .class_ 12), (0, .nameAndType 13 14), (0, u "com/example/encase/encase/codec/LabelsLowerAsciiPinLaw"), (0, u "make"), (0, u "(I[C)Ljava/lang/String;"), (0, .methodref 16 17), (0, .class_ 18), (0, .nameAndType 19 20), (0, u "com/example/encase/encase/codec/Labels"), (0, u "lowerAscii"), (0, u "(Ljava/lang/String;I)Ljava/lang/String;"), (0, .methodref 22 23), (0, .class_ 24), (0, .nameAndType 25 26), (0, u "java/lang/String"), (0, u "length"), (0, u "()I"), (0, .methodref 10 28), (0, .nameAndType 29 30), (0, u "at"), (0, u "(Ljava/lang/String;[CIII)Z"), (0, .methodref 22 32), (0, .nameAndType 5 33), (0, u "([C)V"), (0, .methodref 22 35), (0, .nameAndType 36 37), (0, u "charAt"), (0, u "(I)C"), (0, .methodref 10 39), (0, .nameAndType 40 41), (0, u "ref"), (0, u "(C)C"), (2, u "law"), (0, u "(IIIIII)Z")] 5

def k1m0 : Method := { name := "<init>", desc := "()V", sig := { parameters := [], returnType := none }, accessFlags := 2, code := none }
def k1c1 : Code := { maxStack := 5, maxLocals := 12, code := code, exceptionTable := #[], attributes := #[] }
def k1m1 : Method := { name := "law", desc := "(IIIIII)Z", sig := { parameters := [.int, .int, .int, .int, .int, .int], returnType := some .boolean }, accessFlags := 9, code := some k1c1 }
def k1c2 : Code := { maxStack := 7, maxLocals := 2, code := method_3_code, exceptionTable := #[], attributes := #[] }
def k1m2 : Method := { name := "make", desc := "(I[C)Ljava/lang/String;", sig := { parameters := [.int, (.array .char)], returnType := some (.object "java/lang/String") }, accessFlags := 10, code := some k1c2 }
def k1c3 : Code := { maxStack := 4, maxLocals := 5, code := method_4_code, exceptionTable := #[], attributes := #[] }
def k1m3 : Method := { name := "at", desc := "(Ljava/lang/String;[CIII)Z", sig := { parameters := [(.object "java/lang/String"), (.array .char), .int, .int, .int], returnType := some .boolean }, accessFlags := 10, code := some k1c3 }
def k1c4 : Code := { maxStack := 2, maxLocals := 2, code := method_5_code, exceptionTable := #[], attributes := #[] }
def k1m4 : Method := { name := "ref", desc := "(C)C", sig := { parameters := [.char], returnType := some .char }, accessFlags := 10, code := some k1c4 }
/-- com/example/encase/encase/codec/LabelsLowerAsciiPinLaw -/
def k1 : Class := { plain "com/example/encase/encase/codec/LabelsLowerAsciiPinLaw" (some 0) with
  accessFlags := 49
  interfaces := #[]
  cf := some (fileOf pool1 10 #[] #[{ accessFlags := 2, nameIndex := 5, descriptorIndex := 6, attributes := #[] }, { accessFlags := 9, nameIndex := 44, descriptorIndex := 45, attributes := #[] }, { accessFlags := 10, nameIndex := 13, descriptorIndex := 14, attributes := #[] }, { accessFlags := 10, nameIndex := 29, descriptorIndex := 30, attributes := #[] }, { accessFlags := 10, nameIndex := 40, descriptorIndex := 41, attributes := #[] }] 49 2 #[] #[])
  fields := #[]
  methods := #[k1m0, k1m1, k1m2, k1m3, k1m4]
  instanceTypes := #[]
  staticTypes := #[]
  resolved := Array.replicate 51 none
  statics := none }

def pool2 : Array CpInfo := pool [(1, .class_ 2), (0, u "java/io/Serializable"), (0, .class_ 4), (0, u "java/lang/Object")] 2

/-- java/io/Serializable -/
def k2 : Class := { plain "java/io/Serializable" (some 0) with
  accessFlags := 1537
  interfaces := #[]
  cf := some (fileOf pool2 1 #[] #[] 1537 3 #[] #[])
  fields := #[]
  methods := #[]
  instanceTypes := #[]
  staticTypes := #[]
  resolved := Array.replicate 7 none
  statics := none }

def pool3 : Array CpInfo := pool [(1, .class_ 2), (0, u "java/lang/Comparable"), (0, .class_ 4), (0, u "java/lang/Object")] 7

/-- java/lang/Comparable -/
def k3 : Class := { plain "java/lang/Comparable" (some 0) with
  accessFlags := 1537
  interfaces := #[]
  cf := some (fileOf pool3 1 #[] #[] 1537 3 #[] #[])
  fields := #[]
  methods := #[]
  instanceTypes := #[]
  staticTypes := #[]
  resolved := Array.replicate 12 none
  statics := none }

def pool4 : Array CpInfo := pool [(2, .class_ 4), (1, u "java/lang/CharSequence"), (42, .class_ 48), (0, u "java/lang/CharSequence$1CodePointIterator"), (10, .class_ 60), (0, u "java/lang/CharSequence$1CharIterator"), (5, .class_ 67), (0, u "java/lang/Object")] 63

/-- java/lang/CharSequence -/
def k4 : Class := { plain "java/lang/CharSequence" (some 0) with
  accessFlags := 1537
  interfaces := #[]
  cf := some (fileOf pool4 2 #[.nestMembers #[47, 59]] #[] 1537 66 #[] #[])
  fields := #[]
  methods := #[]
  instanceTypes := #[]
  staticTypes := #[]
  resolved := Array.replicate 131 none
  statics := none }

def pool5 : Array CpInfo := pool [(1, .class_ 2), (0, u "java/lang/constant/Constable"), (0, .class_ 4), (0, u "java/lang/Object")] 6

/-- java/lang/constant/Constable -/
def k5 : Class := { plain "java/lang/constant/Constable" (some 0) with
  accessFlags := 1537
  interfaces := #[]
  cf := some (fileOf pool5 1 #[] #[] 1537 3 #[] #[])
  fields := #[]
  methods := #[]
  instanceTypes := #[]
  staticTypes := #[]
  resolved := Array.replicate 11 none
  statics := none }

def pool6 : Array CpInfo := pool [(1, .class_ 2), (0, u "java/lang/constant/ConstantDesc"), (0, .class_ 4), (0, u "java/lang/Object")] 32

/-- java/lang/constant/ConstantDesc -/
def k6 : Class := { plain "java/lang/constant/ConstantDesc" (some 0) with
  accessFlags := 1537
  interfaces := #[]
  cf := some (fileOf pool6 1 #[] #[] 1537 3 #[] #[])
  fields := #[]
  methods := #[]
  instanceTypes := #[]
  staticTypes := #[]
  resolved := Array.replicate 37 none
  statics := none }

def pool7 : Array CpInfo := pool [(1, .methodref 2 3), (0, .class_ 4), (0, .nameAndType 5 6), (0, u "java/lang/Object"), (0, u "<init>"), (0, u "()V"), (0, .string 8), (0, u ""), (0, .fieldref 10 11), (0, .class_ 12), (0, .nameAndType 13 14), (0, u "java/lang/String"), (0, u "value"), (0, u "[B"), (0, .fieldref 10 16), (0, .nameAndType 17 18), (0, u "coder"), (0, u "B"), (2, u "hash"), (0, u "I"), (2, u "hashIsZero"), (0, u "Z"), (0, .methodref 10 28), (0, .nameAndType 5 29), (0, u "([CIILjava/lang/Void;)V"), (8, .fieldref 10 39), (0, .nameAndType 40 26), (0, u "COMPACT_STRINGS"), (1, .class_ 44), (1, u "java/lang/StringUTF16"), (0, u "compress"), (1, .methodref 42 48), (0, .nameAndType 49 50), (0, u "coderFromArrayLen"), (0, u "([BI)B"), (56, .class_ 109), (1, u "java/lang/StringLatin1"), (32, u "()Z"), (34, .methodref 42 178), (0, .nameAndType 45 179), (0, u "([CII)[B"), (154, u "()I"), (0, .methodref 10 336), (0, .nameAndType 17 337), (0, u "()B"), (25, u "([BI)C"), (27, u "(II)V"), (35, u "(I)C"), (64, .methodref 10 493), (0, .nameAndType 494 142), (0, u "isLatin1"), (0, .methodref 107 496), (0, .nameAndType 497 363), (0, u "charAt"), (0, .methodref 42 496), (2, u "checkIndex"), (5, u "length"), (67, .class_ 576), (0, u "java/lang/CharSequence"), (22, u "CASE_INSENSITIVE_ORDER"), (0, u "Ljava/util/Comparator;"), (409, u "([C)V"), (42, .fieldref 1054 1055), (0, .class_ 1056), (0, .nameAndType 1057 1058), (0, u "jdk/internal/util/Preconditions"), (0, u "SIOOBE_FORMATTER"), (0, u "Ljava/util/function/BiFunction;"), (0, .methodref 1054 1060), (0, .nameAndType 501 1061), (0, u "(IILjava/util/function/BiFunction;)I"), (39, u "serialPersistentFields"), (0, u "[Ljava/io/ObjectStreamField;"), (0, .class_ 1104), (0, u "java/lang/String$CaseInsensitiveComparator"), (1, .class_ 1107), (0, u "java/io/Serializable"), (0, .class_ 1109), (0, u "java/lang/Comparable"), (0, .class_ 1111), (0, u "java/lang/constant/Constable"), (0, .class_ 1113), (0, u "java/lang/constant/ConstantDesc"), (2, u "serialVersionUID"), (0, u "J"), (3, u "REPL"), (0, u "C"), (2, u "LATIN1"), (1, u "UTF16")] 323

def k7m0 : Method := { name := "<init>", desc := "()V", sig := { parameters := [], returnType := none }, accessFlags := 1, code := none }
def k7c1 : Code := { maxStack := 5, maxLocals := 2, code := jdk_42_method_3_code, exceptionTable := #[], attributes := #[] }
def k7m1 : Method := { name := "<init>", desc := "([C)V", sig := { parameters := [(.array .char)], returnType := none }, accessFlags := 1, code := some k7c1 }
def k7c2 : Code := { maxStack := 2, maxLocals := 1, code := jdk_42_method_54_code, exceptionTable := #[], attributes := #[] }
def k7m2 : Method := { name := "length", desc := "()I", sig := { parameters := [], returnType := some .int }, accessFlags := 1, code := some k7c2 }
def k7c3 : Code := { maxStack := 2, maxLocals := 2, code := jdk_42_method_56_code, exceptionTable := #[], attributes := #[] }
def k7m3 : Method := { name := "charAt", desc := "(I)C", sig := { parameters := [.int], returnType := some .char }, accessFlags := 1, code := some k7c3 }
def k7c4 : Code := { maxStack := 4, maxLocals := 6, code := jdk_42_method_149_code, exceptionTable := #[], attributes := #[] }
def k7m4 : Method := { name := "<init>", desc := "([CIILjava/lang/Void;)V", sig := { parameters := [(.array .char), .int, .int, (.object "java/lang/Void")], returnType := none }, accessFlags := 2, code := some k7c4 }
def k7c5 : Code := { maxStack := 1, maxLocals := 1, code := jdk_42_method_152_code, exceptionTable := #[], attributes := #[] }
def k7m5 : Method := { name := "coder", desc := "()B", sig := { parameters := [], returnType := some .byte }, accessFlags := 0, code := some k7c5 }
def k7c6 : Code := { maxStack := 1, maxLocals := 1, code := jdk_42_method_154_code, exceptionTable := #[], attributes := #[] }
def k7m6 : Method := { name := "isLatin1", desc := "()Z", sig := { parameters := [], returnType := some .boolean }, accessFlags := 0, code := some k7c6 }
def k7c7 : Code := { maxStack := 3, maxLocals := 2, code := jdk_42_method_155_code, exceptionTable := #[], attributes := #[] }
def k7m7 : Method := { name := "checkIndex", desc := "(II)V", sig := { parameters := [.int, .int], returnType := none }, accessFlags := 8, code := some k7c7 }
/-- java/lang/String -/
def k7 : Class := { plain "java/lang/String" (some 0) with
  accessFlags := 49
  interfaces := #[2, 3, 4, 5, 6]
  cf := some (fileOf pool7 10 #[.nestMembers #[1103]] #[{ accessFlags := 1, nameIndex := 5, descriptorIndex := 6, attributes := #[] }, { accessFlags := 1, nameIndex := 5, descriptorIndex := 1010, attributes := #[] }, { accessFlags := 1, nameIndex := 507, descriptorIndex := 334, attributes := #[] }, { accessFlags := 1, nameIndex := 497, descriptorIndex := 427, attributes := #[] }, { accessFlags := 2, nameIndex := 5, descriptorIndex := 29, attributes := #[] }, { accessFlags := 0, nameIndex := 17, descriptorIndex := 337, attributes := #[] }, { accessFlags := 0, nameIndex := 494, descriptorIndex := 142, attributes := #[] }, { accessFlags := 8, nameIndex := 501, descriptorIndex := 391, attributes := #[] }] 49 2 #[1106, 1108, 575, 1110, 1112] #[{ accessFlags := 18, nameIndex := 13, descriptorIndex := 14, attributes := #[] }, { accessFlags := 18, nameIndex := 17, descriptorIndex := 18, attributes := #[] }, { accessFlags := 2, nameIndex := 21, descriptorIndex := 22, attributes := #[] }, { accessFlags := 2, nameIndex := 25, descriptorIndex := 26, attributes := #[] }, { accessFlags := 26, nameIndex := 1116, descriptorIndex := 1117, attributes := #[] }, { accessFlags := 24, nameIndex := 40, descriptorIndex := 26, attributes := #[] }, { accessFlags := 26, nameIndex := 1101, descriptorIndex := 1102, attributes := #[] }, { accessFlags := 26, nameIndex := 1121, descriptorIndex := 1122, attributes := #[] }, { accessFlags := 25, nameIndex := 599, descriptorIndex := 600, attributes := #[] }, { accessFlags := 24, nameIndex := 1125, descriptorIndex := 18, attributes := #[] }, { accessFlags := 24, nameIndex := 1127, descriptorIndex := 18, attributes := #[] }])
  fields := #[{ name := "value", type := (.array .byte), accessFlags := 18, slot := 0, constantValue := 0 }, { name := "coder", type := .byte, accessFlags := 18, slot := 1, constantValue := 0 }, { name := "hash", type := .int, accessFlags := 2, slot := 2, constantValue := 0 }, { name := "hashIsZero", type := .boolean, accessFlags := 2, slot := 3, constantValue := 0 }, { name := "serialVersionUID", type := .long, accessFlags := 26, slot := 0, constantValue := 0 }, { name := "COMPACT_STRINGS", type := .boolean, accessFlags := 24, slot := 1, constantValue := 0 }, { name := "serialPersistentFields", type := (.array (.object "java/io/ObjectStreamField")), accessFlags := 26, slot := 2, constantValue := 0 }, { name := "REPL", type := .char, accessFlags := 26, slot := 3, constantValue := 0 }, { name := "CASE_INSENSITIVE_ORDER", type := (.object "java/util/Comparator"), accessFlags := 25, slot := 4, constantValue := 0 }, { name := "LATIN1", type := .byte, accessFlags := 24, slot := 5, constantValue := 0 }, { name := "UTF16", type := .byte, accessFlags := 24, slot := 6, constantValue := 0 }]
  methods := #[k7m0, k7m1, k7m2, k7m3, k7m4, k7m5, k7m6, k7m7]
  instanceTypes := #[(.array .byte), .byte, .int, .boolean]
  staticTypes := #[.long, .boolean, (.array (.object "java/io/ObjectStreamField")), .char, (.object "java/util/Comparator"), .byte, .byte]
  resolved := Array.replicate 1451 none
  statics := some 0 }

def pool8 : Array CpInfo := pool [(2, .class_ 4), (1, u "java/lang/Object"), (0, u "<init>"), (0, u "()V"), (14, .class_ 23), (1, u "com/example/encase/encase/codec/Labels"), (38, .methodref 63 64), (0, .class_ 65), (0, .nameAndType 66 67), (0, u "java/lang/String"), (0, u "length"), (0, u "()I"), (10, .nameAndType 79 80), (0, u "charAt"), (0, u "(I)C"), (19, .methodref 63 78), (0, .methodref 21 102), (0, .nameAndType 103 104), (0, u "lowerAscii"), (0, u "(C)C"), (0, .methodref 63 106), (0, .nameAndType 5 107), (0, u "([C)V"), (0, u "MAX_LENGTH"), (0, u "I"), (12, u "(Ljava/lang/String;I)Ljava/lang/String;")] 19

def k8m0 : Method := { name := "<init>", desc := "()V", sig := { parameters := [], returnType := none }, accessFlags := 2, code := none }
def k8c1 : Code := { maxStack := 5, maxLocals := 4, code := prog_20_method_12_code, exceptionTable := #[], attributes := #[] }
def k8m1 : Method := { name := "lowerAscii", desc := "(Ljava/lang/String;I)Ljava/lang/String;", sig := { parameters := [(.object "java/lang/String"), .int], returnType := some (.object "java/lang/String") }, accessFlags := 8, code := some k8c1 }
def k8c2 : Code := { maxStack := 2, maxLocals := 1, code := prog_20_method_13_code, exceptionTable := #[], attributes := #[] }
def k8m2 : Method := { name := "lowerAscii", desc := "(C)C", sig := { parameters := [.char], returnType := some .char }, accessFlags := 10, code := some k8c2 }
/-- com/example/encase/encase/codec/Labels -/
def k8 : Class := { plain "com/example/encase/encase/codec/Labels" (some 0) with
  accessFlags := 49
  interfaces := #[]
  cf := some (fileOf pool8 21 #[] #[{ accessFlags := 2, nameIndex := 5, descriptorIndex := 6, attributes := #[] }, { accessFlags := 8, nameIndex := 103, descriptorIndex := 122, attributes := #[] }, { accessFlags := 10, nameIndex := 103, descriptorIndex := 104, attributes := #[] }] 49 2 #[] #[{ accessFlags := 25, nameIndex := 108, descriptorIndex := 109, attributes := #[] }])
  fields := #[{ name := "MAX_LENGTH", type := .int, accessFlags := 25, slot := 0, constantValue := 0 }]
  methods := #[k8m0, k8m1, k8m2]
  instanceTypes := #[]
  staticTypes := #[.int]
  resolved := Array.replicate 142 none
  statics := none }

def pool9 : Array CpInfo := pool [(3, .class_ 4), (0, u "java/lang/String"), (1, .class_ 8), (1, u "java/lang/Object"), (0, u "<init>"), (0, u "()V"), (0, .methodref 12 13), (0, .class_ 14), (0, .nameAndType 15 16), (0, u "java/lang/StringUTF16"), (0, u "newBytesLength"), (0, u "(I)I"), (3, .integer 1073741823), (23, .fieldref 12 45), (0, .nameAndType 46 47), (0, u "$assertionsDisabled"), (0, u "Z"), (0, .methodref 12 49), (0, .nameAndType 50 51), (0, u "length"), (0, u "([B)I"), (7, .fieldref 12 60), (0, .nameAndType 61 62), (0, u "HI_BYTE_SHIFT"), (0, u "I"), (0, .fieldref 12 64), (0, .nameAndType 65 62), (0, u "LO_BYTE_SHIFT"), (1, .methodref 12 68), (0, .nameAndType 69 70), (0, u "checkIndex"), (0, u "(I[B)V"), (0, .methodref 12 72), (0, .nameAndType 73 74), (0, u "getChar"), (0, u "([BI)C"), (32, .methodref 12 108), (0, .nameAndType 109 110), (0, u "newBytesFor"), (0, u "(I)[B"), (0, .methodref 12 112), (0, .nameAndType 113 114), (0, u "putChar"), (0, u "([BII)V"), (0, .methodref 12 116), (0, .nameAndType 117 118), (0, u "compress"), (0, u "([CI[BII)I"), (0, .methodref 12 120), (0, .nameAndType 121 122), (0, u "toBytes"), (0, u "([CII)[B"), (138, u "coderFromArrayLen"), (0, u "([BI)B"), (106, .class_ 371), (1, u "java/lang/StringUTF16$LinesSpliterator"), (20, u "charAt"), (21, .methodref 3 415), (0, .nameAndType 69 416), (0, u "(II)V"), (13, u "MAX_LENGTH"), (196, .class_ 628), (0, u "java/lang/StringUTF16$CodePointsSpliterator"), (0, .class_ 630), (0, u "java/lang/StringUTF16$CharsSpliterator")] 4

def k9m0 : Method := { name := "<init>", desc := "()V", sig := { parameters := [], returnType := none }, accessFlags := 0, code := none }
def k9c1 : Code := { maxStack := 1, maxLocals := 1, code := jdk_52_method_2_code, exceptionTable := #[], attributes := #[] }
def k9m1 : Method := { name := "newBytesFor", desc := "(I)[B", sig := { parameters := [.int], returnType := some (.array .byte) }, accessFlags := 9, code := some k9c1 }
def k9c2 : Code := { maxStack := 4, maxLocals := 1, code := jdk_52_method_3_code, exceptionTable := #[], attributes := #[] }
def k9m2 : Method := { name := "newBytesLength", desc := "(I)I", sig := { parameters := [.int], returnType := some .int }, accessFlags := 9, code := some k9c2 }
def k9c3 : Code := { maxStack := 4, maxLocals := 3, code := jdk_52_method_4_code, exceptionTable := #[], attributes := #[] }
def k9m3 : Method := { name := "putChar", desc := "([BII)V", sig := { parameters := [(.array .byte), .int, .int], returnType := none }, accessFlags := 8, code := some k9c3 }
def k9c4 : Code := { maxStack := 3, maxLocals := 2, code := jdk_52_method_5_code, exceptionTable := #[], attributes := #[] }
def k9m4 : Method := { name := "getChar", desc := "([BI)C", sig := { parameters := [(.array .byte), .int], returnType := some .char }, accessFlags := 8, code := some k9c4 }
def k9c5 : Code := { maxStack := 2, maxLocals := 1, code := jdk_52_method_6_code, exceptionTable := #[], attributes := #[] }
def k9m5 : Method := { name := "length", desc := "([B)I", sig := { parameters := [(.array .byte)], returnType := some .int }, accessFlags := 9, code := some k9c5 }
def k9c6 : Code := { maxStack := 4, maxLocals := 5, code := jdk_52_method_14_code, exceptionTable := #[], attributes := #[] }
def k9m6 : Method := { name := "toBytes", desc := "([CII)[B", sig := { parameters := [(.array .char), .int, .int], returnType := some (.array .byte) }, accessFlags := 9, code := some k9c6 }
def k9c7 : Code := { maxStack := 2, maxLocals := 2, code := jdk_52_method_15_code, exceptionTable := #[], attributes := #[] }
def k9m7 : Method := { name := "coderFromArrayLen", desc := "([BI)B", sig := { parameters := [(.array .byte), .int], returnType := some .byte }, accessFlags := 8, code := some k9c7 }
def k9c8 : Code := { maxStack := 5, maxLocals := 6, code := jdk_52_method_16_code, exceptionTable := #[], attributes := #[] }
def k9m8 : Method := { name := "compress", desc := "([CII)[B", sig := { parameters := [(.array .char), .int, .int], returnType := some (.array .byte) }, accessFlags := 9, code := some k9c8 }
def k9c9 : Code := { maxStack := 3, maxLocals := 7, code := jdk_52_method_21_code, exceptionTable := #[], attributes := #[] }
def k9m9 : Method := { name := "compress", desc := "([CI[BII)I", sig := { parameters := [(.array .char), .int, (.array .byte), .int, .int], returnType := some .int }, accessFlags := 9, code := some k9c9 }
def k9c10 : Code := { maxStack := 2, maxLocals := 2, code := jdk_52_method_83_code, exceptionTable := #[], attributes := #[] }
def k9m10 : Method := { name := "charAt", desc := "([BI)C", sig := { parameters := [(.array .byte), .int], returnType := some .char }, accessFlags := 9, code := some k9c10 }
def k9c11 : Code := { maxStack := 2, maxLocals := 2, code := jdk_52_method_91_code, exceptionTable := #[], attributes := #[] }
def k9m11 : Method := { name := "checkIndex", desc := "(I[B)V", sig := { parameters := [.int, (.array .byte)], returnType := none }, accessFlags := 9, code := some k9c11 }
/-- java/lang/StringUTF16 -/
def k9 : Class := { plain "java/lang/StringUTF16" (some 0) with
  accessFlags := 48
  interfaces := #[]
  cf := some (fileOf pool9 12 #[.nestMembers #[627, 629, 369]] #[{ accessFlags := 0, nameIndex := 9, descriptorIndex := 10, attributes := #[] }, { accessFlags := 9, nameIndex := 109, descriptorIndex := 110, attributes := #[] }, { accessFlags := 9, nameIndex := 15, descriptorIndex := 16, attributes := #[] }, { accessFlags := 8, nameIndex := 113, descriptorIndex := 114, attributes := #[] }, { accessFlags := 8, nameIndex := 73, descriptorIndex := 74, attributes := #[] }, { accessFlags := 9, nameIndex := 50, descriptorIndex := 51, attributes := #[] }, { accessFlags := 9, nameIndex := 121, descriptorIndex := 122, attributes := #[] }, { accessFlags := 8, nameIndex := 261, descriptorIndex := 262, attributes := #[] }, { accessFlags := 9, nameIndex := 117, descriptorIndex := 122, attributes := #[] }, { accessFlags := 9, nameIndex := 117, descriptorIndex := 118, attributes := #[] }, { accessFlags := 9, nameIndex := 392, descriptorIndex := 74, attributes := #[] }, { accessFlags := 9, nameIndex := 69, descriptorIndex := 70, attributes := #[] }] 48 6 #[] #[{ accessFlags := 26, nameIndex := 61, descriptorIndex := 62, attributes := #[] }, { accessFlags := 26, nameIndex := 65, descriptorIndex := 62, attributes := #[] }, { accessFlags := 24, nameIndex := 430, descriptorIndex := 62, attributes := #[] }, { accessFlags := 4120, nameIndex := 46, descriptorIndex := 47, attributes := #[] }])
  fields := #[{ name := "HI_BYTE_SHIFT", type := .int, accessFlags := 26, slot := 0, constantValue := 0 }, { name := "LO_BYTE_SHIFT", type := .int, accessFlags := 26, slot := 1, constantValue := 0 }, { name := "MAX_LENGTH", type := .int, accessFlags := 24, slot := 2, constantValue := 0 }, { name := "$assertionsDisabled", type := .boolean, accessFlags := 4120, slot := 3, constantValue := 0 }]
  methods := #[k9m0, k9m1, k9m2, k9m3, k9m4, k9m5, k9m6, k9m7, k9m8, k9m9, k9m10, k9m11]
  instanceTypes := #[]
  staticTypes := #[.int, .int, .int, .boolean]
  resolved := Array.replicate 635 none
  statics := some 1 }

def pool10 : Array CpInfo := pool [(1, .class_ 2), (0, u "java/lang/String"), (1, .class_ 6), (1, u "java/lang/Object"), (0, u "<init>"), (0, u "()V"), (0, .methodref 1 10), (0, .nameAndType 11 12), (0, u "checkIndex"), (0, u "(II)V"), (1, .class_ 16), (1, u "java/lang/StringLatin1"), (36, u "([BI)C"), (67, u "$assertionsDisabled"), (0, u "Z"), (98, .class_ 223), (1, u "java/lang/StringLatin1$LinesSpliterator"), (28, u "charAt"), (137, .class_ 391), (0, u "java/lang/StringLatin1$CharsSpliterator")] 3

def k10m0 : Method := { name := "<init>", desc := "()V", sig := { parameters := [], returnType := none }, accessFlags := 0, code := none }
def k10c1 : Code := { maxStack := 2, maxLocals := 2, code := jdk_43_method_2_code, exceptionTable := #[], attributes := #[] }
def k10m1 : Method := { name := "charAt", desc := "([BI)C", sig := { parameters := [(.array .byte), .int], returnType := some .char }, accessFlags := 9, code := some k10c1 }
/-- java/lang/StringLatin1 -/
def k10 : Class := { plain "java/lang/StringLatin1" (some 0) with
  accessFlags := 48
  interfaces := #[]
  cf := some (fileOf pool10 14 #[.nestMembers #[390, 221]] #[{ accessFlags := 0, nameIndex := 7, descriptorIndex := 8, attributes := #[] }, { accessFlags := 9, nameIndex := 252, descriptorIndex := 53, attributes := #[] }] 48 4 #[] #[{ accessFlags := 4120, nameIndex := 121, descriptorIndex := 122, attributes := #[] }])
  fields := #[{ name := "$assertionsDisabled", type := .boolean, accessFlags := 4120, slot := 0, constantValue := 0 }]
  methods := #[k10m0, k10m1]
  instanceTypes := #[]
  staticTypes := #[.boolean]
  resolved := Array.replicate 395 none
  statics := none }

def pool11 : Array CpInfo := pool [(2, .class_ 4), (1, u "java/lang/Object"), (0, u "<init>"), (0, u "()V"), (17, .class_ 26), (1, u "jdk/internal/util/Preconditions"), (6, u "checkIndex"), (21, .class_ 56), (0, u "jdk/internal/util/Preconditions$4"), (57, .class_ 115), (0, u "jdk/internal/util/Preconditions$1"), (7, u "SIOOBE_FORMATTER"), (0, u "Ljava/util/function/BiFunction;"), (0, .class_ 126), (0, u "jdk/internal/util/Preconditions$2"), (3, u "AIOOBE_FORMATTER"), (0, .class_ 132), (0, u "jdk/internal/util/Preconditions$3"), (3, u "IOOBE_FORMATTER"), (41, u "(IILjava/util/function/BiFunction;)I")] 15

def k11m0 : Method := { name := "<init>", desc := "()V", sig := { parameters := [], returnType := none }, accessFlags := 1, code := none }
def k11c1 : Code := { maxStack := 3, maxLocals := 3, code := jdk_41_method_11_code, exceptionTable := #[], attributes := #[] }
def k11m1 : Method := { name := "checkIndex", desc := "(IILjava/util/function/BiFunction;)I", sig := { parameters := [.int, .int, (.object "java/util/function/BiFunction")], returnType := some .int }, accessFlags := 9, code := some k11c1 }
/-- jdk/internal/util/Preconditions -/
def k11 : Class := { plain "jdk/internal/util/Preconditions" (some 0) with
  accessFlags := 33
  interfaces := #[]
  cf := some (fileOf pool11 24 #[.nestMembers #[55, 131, 125, 114]] #[{ accessFlags := 1, nameIndex := 5, descriptorIndex := 6, attributes := #[] }, { accessFlags := 9, nameIndex := 33, descriptorIndex := 178, attributes := #[] }] 33 2 #[] #[{ accessFlags := 25, nameIndex := 123, descriptorIndex := 124, attributes := #[] }, { accessFlags := 25, nameIndex := 130, descriptorIndex := 124, attributes := #[] }, { accessFlags := 25, nameIndex := 136, descriptorIndex := 124, attributes := #[] }])
  fields := #[{ name := "SIOOBE_FORMATTER", type := (.object "java/util/function/BiFunction"), accessFlags := 25, slot := 0, constantValue := 0 }, { name := "AIOOBE_FORMATTER", type := (.object "java/util/function/BiFunction"), accessFlags := 25, slot := 1, constantValue := 0 }, { name := "IOOBE_FORMATTER", type := (.object "java/util/function/BiFunction"), accessFlags := 25, slot := 2, constantValue := 0 }]
  methods := #[k11m0, k11m1]
  instanceTypes := #[]
  staticTypes := #[(.object "java/util/function/BiFunction"), (.object "java/util/function/BiFunction"), (.object "java/util/function/BiFunction")]
  resolved := Array.replicate 194 none
  statics := some 2 }

def pool12 : Array CpInfo := pool [(9, u "<init>"), (6, .class_ 18), (1, u "java/lang/Object"), (0, u "()V"), (1, .class_ 23), (1, u "jdk/internal/util/ArraysSupport"), (0, u "LOG2_ARRAY_LONG_INDEX_SCALE"), (0, u "I"), (2, u "U"), (0, u "Ljdk/internal/misc/Unsafe;"), (8, u "BIG_ENDIAN"), (0, u "Z"), (8, u "LOG2_BYTE_BIT_SIZE"), (4, u "LOG2_ARRAY_INT_INDEX_SCALE"), (54, u "JLA"), (0, u "Ljdk/internal/access/JavaLangAccess;"), (11, u "LOG2_ARRAY_BOOLEAN_INDEX_SCALE"), (9, u "LOG2_ARRAY_BYTE_INDEX_SCALE"), (5, u "LOG2_ARRAY_CHAR_INDEX_SCALE"), (5, u "LOG2_ARRAY_SHORT_INDEX_SCALE"), (18, u "LOG2_ARRAY_FLOAT_INDEX_SCALE"), (24, u "LOG2_ARRAY_DOUBLE_INDEX_SCALE"), (89, u "T_BOOLEAN"), (2, u "T_CHAR"), (1, u "T_FLOAT"), (1, u "T_DOUBLE"), (1, u "T_BYTE"), (1, u "T_SHORT"), (1, u "T_INT"), (1, u "T_LONG"), (1, u "SOFT_MAX_ARRAY_LENGTH")] 83

def k12m0 : Method := { name := "<init>", desc := "()V", sig := { parameters := [], returnType := none }, accessFlags := 2, code := none }
/-- jdk/internal/util/ArraysSupport -/
def k12 : Class := { plain "jdk/internal/util/ArraysSupport" (some 0) with
  accessFlags := 33
  interfaces := #[]
  cf := some (fileOf pool12 21 #[] #[{ accessFlags := 2, nameIndex := 9, descriptorIndex := 19, attributes := #[] }] 33 16 #[] #[{ accessFlags := 24, nameIndex := 28, descriptorIndex := 29, attributes := #[] }, { accessFlags := 26, nameIndex := 38, descriptorIndex := 39, attributes := #[] }, { accessFlags := 25, nameIndex := 121, descriptorIndex := 25, attributes := #[] }, { accessFlags := 25, nameIndex := 131, descriptorIndex := 25, attributes := #[] }, { accessFlags := 25, nameIndex := 137, descriptorIndex := 25, attributes := #[] }, { accessFlags := 25, nameIndex := 143, descriptorIndex := 25, attributes := #[] }, { accessFlags := 25, nameIndex := 53, descriptorIndex := 25, attributes := #[] }, { accessFlags := 25, nameIndex := 24, descriptorIndex := 25, attributes := #[] }, { accessFlags := 25, nameIndex := 162, descriptorIndex := 25, attributes := #[] }, { accessFlags := 25, nameIndex := 187, descriptorIndex := 25, attributes := #[] }, { accessFlags := 26, nameIndex := 48, descriptorIndex := 25, attributes := #[] }, { accessFlags := 25, nameIndex := 277, descriptorIndex := 25, attributes := #[] }, { accessFlags := 25, nameIndex := 280, descriptorIndex := 25, attributes := #[] }, { accessFlags := 25, nameIndex := 282, descriptorIndex := 25, attributes := #[] }, { accessFlags := 25, nameIndex := 284, descriptorIndex := 25, attributes := #[] }, { accessFlags := 25, nameIndex := 286, descriptorIndex := 25, attributes := #[] }, { accessFlags := 25, nameIndex := 288, descriptorIndex := 25, attributes := #[] }, { accessFlags := 25, nameIndex := 290, descriptorIndex := 25, attributes := #[] }, { accessFlags := 25, nameIndex := 292, descriptorIndex := 25, attributes := #[] }, { accessFlags := 26, nameIndex := 108, descriptorIndex := 109, attributes := #[] }, { accessFlags := 25, nameIndex := 294, descriptorIndex := 25, attributes := #[] }])
  fields := #[{ name := "U", type := (.object "jdk/internal/misc/Unsafe"), accessFlags := 24, slot := 0, constantValue := 0 }, { name := "BIG_ENDIAN", type := .boolean, accessFlags := 26, slot := 1, constantValue := 0 }, { name := "LOG2_ARRAY_BOOLEAN_INDEX_SCALE", type := .int, accessFlags := 25, slot := 2, constantValue := 0 }, { name := "LOG2_ARRAY_BYTE_INDEX_SCALE", type := .int, accessFlags := 25, slot := 3, constantValue := 0 }, { name := "LOG2_ARRAY_CHAR_INDEX_SCALE", type := .int, accessFlags := 25, slot := 4, constantValue := 0 }, { name := "LOG2_ARRAY_SHORT_INDEX_SCALE", type := .int, accessFlags := 25, slot := 5, constantValue := 0 }, { name := "LOG2_ARRAY_INT_INDEX_SCALE", type := .int, accessFlags := 25, slot := 6, constantValue := 0 }, { name := "LOG2_ARRAY_LONG_INDEX_SCALE", type := .int, accessFlags := 25, slot := 7, constantValue := 0 }, { name := "LOG2_ARRAY_FLOAT_INDEX_SCALE", type := .int, accessFlags := 25, slot := 8, constantValue := 0 }, { name := "LOG2_ARRAY_DOUBLE_INDEX_SCALE", type := .int, accessFlags := 25, slot := 9, constantValue := 0 }, { name := "LOG2_BYTE_BIT_SIZE", type := .int, accessFlags := 26, slot := 10, constantValue := 0 }, { name := "T_BOOLEAN", type := .int, accessFlags := 25, slot := 11, constantValue := 0 }, { name := "T_CHAR", type := .int, accessFlags := 25, slot := 12, constantValue := 0 }, { name := "T_FLOAT", type := .int, accessFlags := 25, slot := 13, constantValue := 0 }, { name := "T_DOUBLE", type := .int, accessFlags := 25, slot := 14, constantValue := 0 }, { name := "T_BYTE", type := .int, accessFlags := 25, slot := 15, constantValue := 0 }, { name := "T_SHORT", type := .int, accessFlags := 25, slot := 16, constantValue := 0 }, { name := "T_INT", type := .int, accessFlags := 25, slot := 17, constantValue := 0 }, { name := "T_LONG", type := .int, accessFlags := 25, slot := 18, constantValue := 0 }, { name := "JLA", type := (.object "jdk/internal/access/JavaLangAccess"), accessFlags := 26, slot := 19, constantValue := 0 }, { name := "SOFT_MAX_ARRAY_LENGTH", type := .int, accessFlags := 25, slot := 20, constantValue := 0 }]
  methods := #[k12m0]
  instanceTypes := #[]
  staticTypes := #[(.object "jdk/internal/misc/Unsafe"), .boolean, .int, .int, .int, .int, .int, .int, .int, .int, .int, .int, .int, .int, .int, .int, .int, .int, .int, (.object "jdk/internal/access/JavaLangAccess"), .int]
  resolved := Array.replicate 378 none
  statics := none }

def pool13 : Array CpInfo := pool [(1, u "java/lang/Cloneable"), (0, .class_ 1), (0, u "java/lang/Object"), (0, .class_ 3)] 3

/-- java/lang/Cloneable -/
def k13 : Class := { plain "java/lang/Cloneable" (some 0) with
  accessFlags := 1537
  interfaces := #[]
  cf := some (fileOf pool13 2 #[] #[] 1537 4 #[] #[])
  fields := #[]
  methods := #[]
  instanceTypes := #[]
  staticTypes := #[]
  resolved := Array.replicate 8 none
  statics := none }

/-- the primitive byte -/
def k14 : Class := { plain "byte" none with kind := .primitive 'B', accessFlags := 0x411 }
/-- [B -/
def k15 : Class := { plain "[B" (some 0) with kind := .array 14 .byte, interfaces := #[13, 2], accessFlags := 1041 }

/-- the primitive char -/
def k16 : Class := { plain "char" none with kind := .primitive 'C', accessFlags := 0x411 }
/-- [C -/
def k17 : Class := { plain "[C" (some 0) with kind := .array 16 .char, interfaces := #[13, 2], accessFlags := 1041 }

/-- the primitive int -/
def k18 : Class := { plain "int" none with kind := .primitive 'I', accessFlags := 0x411 }
/-- [I -/
def k19 : Class := { plain "[I" (some 0) with kind := .array 18 .int, interfaces := #[13, 2], accessFlags := 1041 }

def heap : Heap := #[{ cls := 7, slots := #[.long 0, .int 1, .null, .int 0, .null, .int 0, .int 0], vm := .statics 7 },
  { cls := 9, slots := #[.int 0, .int 8, .int 0, .int 1], vm := .statics 9 },
  { cls := 11, slots := #[.null, .null, .null], vm := .statics 11 }]
def classes : Array Class := #[k0, k1, k2, k3, k4, k5, k6, k7, k8, k9, k10, k11, k12, k13, k14, k15, k16, k17, k18, k19]
def interned : List (Array UInt16 × Addr) := []
def slotsUsed : Nat := 14
def theMethod : MethodId := ⟨1, 1⟩
def args0 : Array Value := #[.int 65, .int 98, .int 300, .int 90, .int 4, .int 1]
def aboutOver (below : List Frame) : State where
  vm := { classes := classes, interned := interned.toArray }
  heap := heap
  slotsUsed := slotsUsed
  threads := #[{ frames := .invoking theMethod args0 :: below }]
def below0 : List Frame := [.native { method := ⟨0, 0⟩, args := #[] }]
def about1 : State := aboutOver below0
def p0 : Program := .bare "" "" ""
def e0 : Env := launch0.env 0 0 0
theorem w_frames : about1.frames = Frame.invoking theMethod args0 :: below0 := rfl
set_option maxRecDepth 65536 in
theorem w_args : argsFit about1.vm theMethod args0 = true := by decide +kernel
set_option maxRecDepth 65536 in
theorem w_heap : heapFits about1 = true := by decide +kernel
set_option maxRecDepth 65536 in
theorem w_runnable : about1.curStatus? = some .runnable := by decide +kernel
set_option maxRecDepth 65536 in
theorem w_alone : about1.alone = true := by decide +kernel
set_option maxRecDepth 65536 in
theorem w_named : about1.methodNamed? x = some theMethod := by decide +kernel
set_option maxRecDepth 65536 in
theorem w_hears : about1.hears theMethod below0 = true := by decide +kernel
set_option maxRecDepth 65536 in
theorem w_ripe : about1.ripe theMethod args0 below0 = true := by decide +kernel
theorem w_running : about1.status = .running := rfl
set_option maxRecDepth 65536 in
theorem w_room : about1.hasRoom e0.platform room_1 = true :=
  launch0.hasRoom_least _ room_1 (by decide +kernel) (by decide +kernel) (by decide +kernel) (by decide +kernel) (by decide +kernel) (by decide +kernel)
theorem allAtoms_all (ts : List Jvm.Cond) (a : Array Jvm.Value) (st : Jvm.State) : (allAtoms ts).before a st = ts.all (fun c => c.before a st) := by
  induction ts with
  | nil => rfl
  | cons c t ih =>
    show (Jvm.Cond.and c (allAtoms t)).before a st = _
    rw [Jvm.Cond.before_and, ih, List.all_cons]
def words1 : List Jvm.Cond := Jvm.Cond.code x code maxLocals ret :: tables_1
/-- a 'code' word, met by the world's own term for the bytes: nothing is compared byte by byte -/
theorem code_word {y : MethodName} {bytes : ByteArray} {mx : Nat} {rt : Option FieldType} {a : Array Value} {s : State} {m : MethodId} {meth : Method} {c : Code} (h1 : s.methodNamed? y = some m) (h2 : s.vm.method? m = some meth) (h3 : meth.code = some c) (h4 : c.code = bytes)
    (h5 : (c.maxLocals == mx && c.exceptionTable.isEmpty && decide (c.maxStack ≤ mostOperands) && decide (meth.sig.returnType = rt) && !meth.locks && decide (parseMethodDescriptor y.desc = some meth.sig)) = true) : (Jvm.Cond.code y bytes mx rt).before a s = true := by
  simp only [Bool.and_eq_true, beq_iff_eq, Bool.not_eq_true', decide_eq_true_eq] at h5
  obtain ⟨⟨⟨⟨⟨g1, g2⟩, g3⟩, g4⟩, g5⟩, g6⟩ := h5
  simp [Cond.before, Cond.holds, Cond.value, h1, h2, h3, h4, g1, g2, g3, g4, g5, g6]
def isCode : Jvm.Cond → Bool
  | .code _ _ _ _ => true
  | _ => false
theorem all_split {L : List Jvm.Cond} {P : Jvm.Cond → Bool} (h1 : L.all (fun c => isCode c || P c) = true) (h2 : ∀ c ∈ L.filter isCode, P c = true) : L.all P = true := by
  refine List.all_eq_true.mpr fun c hc => ?_
  have h := List.all_eq_true.mp h1 c hc
  rcases Bool.eq_false_or_eq_true (isCode c) with hi | hi
  · exact h2 c (List.mem_filter.mpr ⟨hc, hi⟩)
  · simpa [hi] using h
set_option maxRecDepth 65536 in
theorem w_c0 : (Jvm.Cond.code x code maxLocals ret).before args0 about1 = true := code_word (m := ⟨1, 1⟩) (meth := k1m1) (c := k1c1) (by decide +kernel) rfl rfl rfl (by decide +kernel)
set_option maxRecDepth 65536 in
theorem w_c1 : (Jvm.Cond.code ({ cls := "com/example/encase/encase/codec/LabelsLowerAsciiPinLaw", name := "make", desc := "(I[C)Ljava/lang/String;" } : Jvm.MethodName) method_3_code (2 : Nat) (Option.some (Jvm.ClassFile.FieldType.object "java/lang/String"))).before args0 about1 = true := code_word (m := ⟨1, 2⟩) (meth := k1m2) (c := k1c2) (by decide +kernel) rfl rfl rfl (by decide +kernel)
set_option maxRecDepth 65536 in
theorem w_c2 : (Jvm.Cond.code ({ cls := "java/lang/String", name := "<init>", desc := "([C)V" } : Jvm.MethodName) jdk_42_method_3_code (2 : Nat) (Option.none : Option Jvm.ClassFile.FieldType)).before args0 about1 = true := code_word (m := ⟨7, 1⟩) (meth := k7m1) (c := k7c1) (by decide +kernel) rfl rfl rfl (by decide +kernel)
set_option maxRecDepth 65536 in
theorem w_c3 : (Jvm.Cond.code ({ cls := "java/lang/String", name := "<init>", desc := "([CIILjava/lang/Void;)V" } : Jvm.MethodName) jdk_42_method_149_code (6 : Nat) (Option.none : Option Jvm.ClassFile.FieldType)).before args0 about1 = true := code_word (m := ⟨7, 4⟩) (meth := k7m4) (c := k7c4) (by decide +kernel) rfl rfl rfl (by decide +kernel)
set_option maxRecDepth 65536 in
theorem w_c4 : (Jvm.Cond.code ({ cls := "java/lang/Object", name := "<init>", desc := "()V" } : Jvm.MethodName) object_method_1_code (1 : Nat) (Option.none : Option Jvm.ClassFile.FieldType)).before args0 about1 = true := code_word (m := ⟨0, 0⟩) (meth := k0m0) (c := k0c0) (by decide +kernel) rfl rfl rfl (by decide +kernel)
set_option maxRecDepth 65536 in
theorem w_c5 : (Jvm.Cond.code ({ cls := "com/example/encase/encase/codec/Labels", name := "lowerAscii", desc := "(Ljava/lang/String;I)Ljava/lang/String;" } : Jvm.MethodName) prog_20_method_12_code (4 : Nat) (Option.some (Jvm.ClassFile.FieldType.object "java/lang/String"))).before args0 about1 = true := code_word (m := ⟨8, 1⟩) (meth := k8m1) (c := k8c1) (by decide +kernel) rfl rfl rfl (by decide +kernel)
set_option maxRecDepth 65536 in
theorem w_c6 : (Jvm.Cond.code ({ cls := "java/lang/String", name := "length", desc := "()I" } : Jvm.MethodName) jdk_42_method_54_code (1 : Nat) (Option.some Jvm.ClassFile.FieldType.int)).before args0 about1 = true := code_word (m := ⟨7, 2⟩) (meth := k7m2) (c := k7c2) (by decide +kernel) rfl rfl rfl (by decide +kernel)
set_option maxRecDepth 65536 in
theorem w_c7 : (Jvm.Cond.code ({ cls := "java/lang/String", name := "coder", desc := "()B" } : Jvm.MethodName) jdk_42_method_152_code (1 : Nat) (Option.some Jvm.ClassFile.FieldType.byte)).before args0 about1 = true := code_word (m := ⟨7, 5⟩) (meth := k7m5) (c := k7c5) (by decide +kernel) rfl rfl rfl (by decide +kernel)
set_option maxRecDepth 65536 in
theorem w_c8 : (Jvm.Cond.code ({ cls := "com/example/encase/encase/codec/LabelsLowerAsciiPinLaw", name := "at", desc := "(Ljava/lang/String;[CIII)Z" } : Jvm.MethodName) method_4_code (5 : Nat) (Option.some Jvm.ClassFile.FieldType.boolean)).before args0 about1 = true := code_word (m := ⟨1, 3⟩) (meth := k1m3) (c := k1c3) (by decide +kernel) rfl rfl rfl (by decide +kernel)
set_option maxRecDepth 65536 in
theorem w_c9 : (Jvm.Cond.code ({ cls := "java/lang/StringUTF16", name := "compress", desc := "([CII)[B" } : Jvm.MethodName) jdk_52_method_16_code (6 : Nat) (Option.some (Jvm.ClassFile.FieldType.array Jvm.ClassFile.FieldType.byte))).before args0 about1 = true := code_word (m := ⟨9, 8⟩) (meth := k9m8) (c := k9c8) (by decide +kernel) rfl rfl rfl (by decide +kernel)
set_option maxRecDepth 65536 in
theorem w_c10 : (Jvm.Cond.code ({ cls := "java/lang/StringUTF16", name := "compress", desc := "([CI[BII)I" } : Jvm.MethodName) jdk_52_method_21_code (7 : Nat) (Option.some Jvm.ClassFile.FieldType.int)).before args0 about1 = true := code_word (m := ⟨9, 9⟩) (meth := k9m9) (c := k9c9) (by decide +kernel) rfl rfl rfl (by decide +kernel)
set_option maxRecDepth 65536 in
theorem w_c11 : (Jvm.Cond.code ({ cls := "java/lang/StringUTF16", name := "coderFromArrayLen", desc := "([BI)B" } : Jvm.MethodName) jdk_52_method_15_code (2 : Nat) (Option.some Jvm.ClassFile.FieldType.byte)).before args0 about1 = true := code_word (m := ⟨9, 7⟩) (meth := k9m7) (c := k9c7) (by decide +kernel) rfl rfl rfl (by decide +kernel)
set_option maxRecDepth 65536 in
theorem w_c12 : (Jvm.Cond.code ({ cls := "java/lang/String", name := "charAt", desc := "(I)C" } : Jvm.MethodName) jdk_42_method_56_code (2 : Nat) (Option.some Jvm.ClassFile.FieldType.char)).before args0 about1 = true := code_word (m := ⟨7, 3⟩) (meth := k7m3) (c := k7c3) (by decide +kernel) rfl rfl rfl (by decide +kernel)
set_option maxRecDepth 65536 in
theorem w_c13 : (Jvm.Cond.code ({ cls := "java/lang/String", name := "isLatin1", desc := "()Z" } : Jvm.MethodName) jdk_42_method_154_code (1 : Nat) (Option.some Jvm.ClassFile.FieldType.boolean)).before args0 about1 = true := code_word (m := ⟨7, 6⟩) (meth := k7m6) (c := k7c6) (by decide +kernel) rfl rfl rfl (by decide +kernel)
set_option maxRecDepth 65536 in
theorem w_c14 : (Jvm.Cond.code ({ cls := "java/lang/StringLatin1", name := "charAt", desc := "([BI)C" } : Jvm.MethodName) jdk_43_method_2_code (2 : Nat) (Option.some Jvm.ClassFile.FieldType.char)).before args0 about1 = true := code_word (m := ⟨10, 1⟩) (meth := k10m1) (c := k10c1) (by decide +kernel) rfl rfl rfl (by decide +kernel)
set_option maxRecDepth 65536 in
theorem w_c15 : (Jvm.Cond.code ({ cls := "java/lang/String", name := "checkIndex", desc := "(II)V" } : Jvm.MethodName) jdk_42_method_155_code (2 : Nat) (Option.none : Option Jvm.ClassFile.FieldType)).before args0 about1 = true := code_word (m := ⟨7, 7⟩) (meth := k7m7) (c := k7c7) (by decide +kernel) rfl rfl rfl (by decide +kernel)
set_option maxRecDepth 65536 in
theorem w_c16 : (Jvm.Cond.code ({ cls := "jdk/internal/util/Preconditions", name := "checkIndex", desc := "(IILjava/util/function/BiFunction;)I" } : Jvm.MethodName) jdk_41_method_11_code (3 : Nat) (Option.some Jvm.ClassFile.FieldType.int)).before args0 about1 = true := code_word (m := ⟨11, 1⟩) (meth := k11m1) (c := k11c1) (by decide +kernel) rfl rfl rfl (by decide +kernel)
set_option maxRecDepth 65536 in
theorem w_c17 : (Jvm.Cond.code ({ cls := "com/example/encase/encase/codec/Labels", name := "lowerAscii", desc := "(C)C" } : Jvm.MethodName) prog_20_method_13_code (1 : Nat) (Option.some Jvm.ClassFile.FieldType.char)).before args0 about1 = true := code_word (m := ⟨8, 2⟩) (meth := k8m2) (c := k8c2) (by decide +kernel) rfl rfl rfl (by decide +kernel)
set_option maxRecDepth 65536 in
theorem w_c18 : (Jvm.Cond.code ({ cls := "com/example/encase/encase/codec/LabelsLowerAsciiPinLaw", name := "ref", desc := "(C)C" } : Jvm.MethodName) method_5_code (2 : Nat) (Option.some Jvm.ClassFile.FieldType.char)).before args0 about1 = true := code_word (m := ⟨1, 4⟩) (meth := k1m4) (c := k1c4) (by decide +kernel) rfl rfl rfl (by decide +kernel)
set_option maxRecDepth 65536 in
theorem w_c19 : (Jvm.Cond.code ({ cls := "java/lang/StringUTF16", name := "toBytes", desc := "([CII)[B" } : Jvm.MethodName) jdk_52_method_14_code (5 : Nat) (Option.some (Jvm.ClassFile.FieldType.array Jvm.ClassFile.FieldType.byte))).before args0 about1 = true := code_word (m := ⟨9, 6⟩) (meth := k9m6) (c := k9c6) (by decide +kernel) rfl rfl rfl (by decide +kernel)
set_option maxRecDepth 65536 in
theorem w_c20 : (Jvm.Cond.code ({ cls := "java/lang/StringUTF16", name := "newBytesFor", desc := "(I)[B" } : Jvm.MethodName) jdk_52_method_2_code (1 : Nat) (Option.some (Jvm.ClassFile.FieldType.array Jvm.ClassFile.FieldType.byte))).before args0 about1 = true := code_word (m := ⟨9, 1⟩) (meth := k9m1) (c := k9c1) (by decide +kernel) rfl rfl rfl (by decide +kernel)
set_option maxRecDepth 65536 in
theorem w_c21 : (Jvm.Cond.code ({ cls := "java/lang/StringUTF16", name := "newBytesLength", desc := "(I)I" } : Jvm.MethodName) jdk_52_method_3_code (1 : Nat) (Option.some Jvm.ClassFile.FieldType.int)).before args0 about1 = true := code_word (m := ⟨9, 2⟩) (meth := k9m2) (c := k9c2) (by decide +kernel) rfl rfl rfl (by decide +kernel)
set_option maxRecDepth 65536 in
theorem w_c22 : (Jvm.Cond.code ({ cls := "java/lang/StringUTF16", name := "putChar", desc := "([BII)V" } : Jvm.MethodName) jdk_52_method_4_code (3 : Nat) (Option.none : Option Jvm.ClassFile.FieldType)).before args0 about1 = true := code_word (m := ⟨9, 3⟩) (meth := k9m3) (c := k9c3) (by decide +kernel) rfl rfl rfl (by decide +kernel)
set_option maxRecDepth 65536 in
theorem w_c23 : (Jvm.Cond.code ({ cls := "java/lang/StringUTF16", name := "getChar", desc := "([BI)C" } : Jvm.MethodName) jdk_52_method_5_code (2 : Nat) (Option.some Jvm.ClassFile.FieldType.char)).before args0 about1 = true := code_word (m := ⟨9, 4⟩) (meth := k9m4) (c := k9c4) (by decide +kernel) rfl rfl rfl (by decide +kernel)
set_option maxRecDepth 65536 in
theorem w_c24 : (Jvm.Cond.code ({ cls := "java/lang/StringUTF16", name := "charAt", desc := "([BI)C" } : Jvm.MethodName) jdk_52_method_83_code (2 : Nat) (Option.some Jvm.ClassFile.FieldType.char)).before args0 about1 = true := code_word (m := ⟨9, 10⟩) (meth := k9m10) (c := k9c10) (by decide +kernel) rfl rfl rfl (by decide +kernel)
set_option maxRecDepth 65536 in
theorem w_c25 : (Jvm.Cond.code ({ cls := "java/lang/StringUTF16", name := "checkIndex", desc := "(I[B)V" } : Jvm.MethodName) jdk_52_method_91_code (2 : Nat) (Option.none : Option Jvm.ClassFile.FieldType)).before args0 about1 = true := code_word (m := ⟨9, 11⟩) (meth := k9m11) (c := k9c11) (by decide +kernel) rfl rfl rfl (by decide +kernel)
set_option maxRecDepth 65536 in
theorem w_c26 : (Jvm.Cond.code ({ cls := "java/lang/StringUTF16", name := "length", desc := "([B)I" } : Jvm.MethodName) jdk_52_method_6_code (1 : Nat) (Option.some Jvm.ClassFile.FieldType.int)).before args0 about1 = true := code_word (m := ⟨9, 5⟩) (meth := k9m5) (c := k9c5) (by decide +kernel) rfl rfl rfl (by decide +kernel)
def codes1 : List Jvm.Cond := [Jvm.Cond.code x code maxLocals ret, Jvm.Cond.code ({ cls := "com/example/encase/encase/codec/LabelsLowerAsciiPinLaw", name := "make", desc := "(I[C)Ljava/lang/String;" } : Jvm.MethodName) method_3_code (2 : Nat) (Option.some (Jvm.ClassFile.FieldType.object "java/lang/String")), Jvm.Cond.code ({ cls := "java/lang/String", name := "<init>", desc := "([C)V" } : Jvm.MethodName) jdk_42_method_3_code (2 : Nat) (Option.none : Option Jvm.ClassFile.FieldType), Jvm.Cond.code ({ cls := "java/lang/String", name := "<init>", desc := "([CIILjava/lang/Void;)V" } : Jvm.MethodName) jdk_42_method_149_code (6 : Nat) (Option.none : Option Jvm.ClassFile.FieldType), Jvm.Cond.code ({ cls := "java/lang/Object", name := "<init>", desc := "()V" } : Jvm.MethodName) object_method_1_code (1 : Nat) (Option.none : Option Jvm.ClassFile.FieldType), Jvm.Cond.code ({ cls := "com/example/encase/encase/codec/Labels", name := "lowerAscii", desc := "(Ljava/lang/String;I)Ljava/lang/String;" } : Jvm.MethodName) prog_20_method_12_code (4 : Nat) (Option.some (Jvm.ClassFile.FieldType.object "java/lang/String")), Jvm.Cond.code ({ cls := "java/lang/String", name := "length", desc := "()I" } : Jvm.MethodName) jdk_42_method_54_code (1 : Nat) (Option.some Jvm.ClassFile.FieldType.int), Jvm.Cond.code ({ cls := "java/lang/String", name := "coder", desc := "()B" } : Jvm.MethodName) jdk_42_method_152_code (1 : Nat) (Option.some Jvm.ClassFile.FieldType.byte), Jvm.Cond.code ({ cls := "com/example/encase/encase/codec/LabelsLowerAsciiPinLaw", name := "at", desc := "(Ljava/lang/String;[CIII)Z" } : Jvm.MethodName) method_4_code (5 : Nat) (Option.some Jvm.ClassFile.FieldType.boolean), Jvm.Cond.code ({ cls := "java/lang/StringUTF16", name := "compress", desc := "([CII)[B" } : Jvm.MethodName) jdk_52_method_16_code (6 : Nat) (Option.some (Jvm.ClassFile.FieldType.array Jvm.ClassFile.FieldType.byte)), Jvm.Cond.code ({ cls := "java/lang/StringUTF16", name := "compress", desc := "([CI[BII)I" } : Jvm.MethodName) jdk_52_method_21_code (7 : Nat) (Option.some Jvm.ClassFile.FieldType.int), Jvm.Cond.code ({ cls := "java/lang/StringUTF16", name := "coderFromArrayLen", desc := "([BI)B" } : Jvm.MethodName) jdk_52_method_15_code (2 : Nat) (Option.some Jvm.ClassFile.FieldType.byte), Jvm.Cond.code ({ cls := "java/lang/String", name := "charAt", desc := "(I)C" } : Jvm.MethodName) jdk_42_method_56_code (2 : Nat) (Option.some Jvm.ClassFile.FieldType.char), Jvm.Cond.code ({ cls := "java/lang/String", name := "isLatin1", desc := "()Z" } : Jvm.MethodName) jdk_42_method_154_code (1 : Nat) (Option.some Jvm.ClassFile.FieldType.boolean), Jvm.Cond.code ({ cls := "java/lang/StringLatin1", name := "charAt", desc := "([BI)C" } : Jvm.MethodName) jdk_43_method_2_code (2 : Nat) (Option.some Jvm.ClassFile.FieldType.char), Jvm.Cond.code ({ cls := "java/lang/String", name := "checkIndex", desc := "(II)V" } : Jvm.MethodName) jdk_42_method_155_code (2 : Nat) (Option.none : Option Jvm.ClassFile.FieldType), Jvm.Cond.code ({ cls := "jdk/internal/util/Preconditions", name := "checkIndex", desc := "(IILjava/util/function/BiFunction;)I" } : Jvm.MethodName) jdk_41_method_11_code (3 : Nat) (Option.some Jvm.ClassFile.FieldType.int), Jvm.Cond.code ({ cls := "com/example/encase/encase/codec/Labels", name := "lowerAscii", desc := "(C)C" } : Jvm.MethodName) prog_20_method_13_code (1 : Nat) (Option.some Jvm.ClassFile.FieldType.char), Jvm.Cond.code ({ cls := "com/example/encase/encase/codec/LabelsLowerAsciiPinLaw", name := "ref", desc := "(C)C" } : Jvm.MethodName) method_5_code (2 : Nat) (Option.some Jvm.ClassFile.FieldType.char), Jvm.Cond.code ({ cls := "java/lang/StringUTF16", name := "toBytes", desc := "([CII)[B" } : Jvm.MethodName) jdk_52_method_14_code (5 : Nat) (Option.some (Jvm.ClassFile.FieldType.array Jvm.ClassFile.FieldType.byte)), Jvm.Cond.code ({ cls := "java/lang/StringUTF16", name := "newBytesFor", desc := "(I)[B" } : Jvm.MethodName) jdk_52_method_2_code (1 : Nat) (Option.some (Jvm.ClassFile.FieldType.array Jvm.ClassFile.FieldType.byte)), Jvm.Cond.code ({ cls := "java/lang/StringUTF16", name := "newBytesLength", desc := "(I)I" } : Jvm.MethodName) jdk_52_method_3_code (1 : Nat) (Option.some Jvm.ClassFile.FieldType.int), Jvm.Cond.code ({ cls := "java/lang/StringUTF16", name := "putChar", desc := "([BII)V" } : Jvm.MethodName) jdk_52_method_4_code (3 : Nat) (Option.none : Option Jvm.ClassFile.FieldType), Jvm.Cond.code ({ cls := "java/lang/StringUTF16", name := "getChar", desc := "([BI)C" } : Jvm.MethodName) jdk_52_method_5_code (2 : Nat) (Option.some Jvm.ClassFile.FieldType.char), Jvm.Cond.code ({ cls := "java/lang/StringUTF16", name := "charAt", desc := "([BI)C" } : Jvm.MethodName) jdk_52_method_83_code (2 : Nat) (Option.some Jvm.ClassFile.FieldType.char), Jvm.Cond.code ({ cls := "java/lang/StringUTF16", name := "checkIndex", desc := "(I[B)V" } : Jvm.MethodName) jdk_52_method_91_code (2 : Nat) (Option.none : Option Jvm.ClassFile.FieldType), Jvm.Cond.code ({ cls := "java/lang/StringUTF16", name := "length", desc := "([B)I" } : Jvm.MethodName) jdk_52_method_6_code (1 : Nat) (Option.some Jvm.ClassFile.FieldType.int)]
set_option maxRecDepth 65536 in
theorem codes_eq : words1.filter isCode = codes1 := rfl
theorem w_codes : ∀ c ∈ words1.filter isCode, c.before args0 about1 = true := by
  rw [codes_eq]
  intro c hc
  simp only [codes1, List.mem_cons, List.not_mem_nil, or_false] at hc
  rcases hc with rfl | rfl | rfl | rfl | rfl | rfl | rfl | rfl | rfl | rfl | rfl | rfl | rfl | rfl | rfl | rfl | rfl | rfl | rfl | rfl | rfl | rfl | rfl | rfl | rfl | rfl | rfl
  · exact w_c0
  · exact w_c1
  · exact w_c2
  · exact w_c3
  · exact w_c4
  · exact w_c5
  · exact w_c6
  · exact w_c7
  · exact w_c8
  · exact w_c9
  · exact w_c10
  · exact w_c11
  · exact w_c12
  · exact w_c13
  · exact w_c14
  · exact w_c15
  · exact w_c16
  · exact w_c17
  · exact w_c18
  · exact w_c19
  · exact w_c20
  · exact w_c21
  · exact w_c22
  · exact w_c23
  · exact w_c24
  · exact w_c25
  · exact w_c26
set_option maxRecDepth 65536 in
theorem w_t1 : (words1.take 24).all (fun c => isCode c || c.before args0 about1) = true := by decide +kernel
set_option maxRecDepth 65536 in
theorem w_t2 : ((words1.drop 24).take 24).all (fun c => isCode c || c.before args0 about1) = true := by decide +kernel
set_option maxRecDepth 65536 in
theorem w_t3 : (((words1.drop 24).drop 24).take 24).all (fun c => isCode c || c.before args0 about1) = true := by decide +kernel
set_option maxRecDepth 65536 in
theorem w_t4 : ((((words1.drop 24).drop 24).drop 24).take 24).all (fun c => isCode c || c.before args0 about1) = true := by decide +kernel
set_option maxRecDepth 65536 in
theorem w_t5 : ((((words1.drop 24).drop 24).drop 24).drop 24).all (fun c => isCode c || c.before args0 about1) = true := by decide +kernel
theorem w_tables : (allAtoms (Jvm.Cond.code x code maxLocals ret :: tables_1)).before args0 about1 = true := by
  rw [allAtoms_all]
  show words1.all (fun c => c.before args0 about1) = true
  refine all_split ?_ w_codes
  rw [← List.take_append_drop 24 words1, List.all_append, w_t1, ← List.take_append_drop 24 (words1.drop 24), List.all_append, w_t2, ← List.take_append_drop 24 ((words1.drop 24).drop 24), List.all_append, w_t3, ← List.take_append_drop 24 (((words1.drop 24).drop 24).drop 24), List.all_append, w_t4, w_t5]
  rfl
set_option maxRecDepth 65536 in
theorem w_rest : rest_1_c.before args0 about1 = true := by decide +kernel
set_option maxRecDepth 65536 in
theorem w_case : (Jvm.Cond.and given_1 narrow_1).before args0 about1 = true := by decide +kernel
set_option maxRecDepth 65536 in
theorem w_consts : constsHeld consts_1 about1 := Jvm.Lit.constsHeldB_iff.mp (by decide +kernel)
theorem w_applies : (headSpec (Jvm.Cond.code x code maxLocals ret :: tables_1) room_1).applies x e0.platform about1 = true :=
  (Spec.applies_iff w_frames).mpr ⟨w_running, w_runnable, w_alone, w_named, w_hears, w_ripe, w_room, w_tables⟩
theorem atStart : AtStart classFile x code maxLocals ret World_1 tables_1 room_1 Calls_1 rest_1 Pre_1 launch0 p0 e0 about1 theMethod args0 below0 :=
  ⟨lists_1, trivial, launch0.admits_env _ _ _, launch0.least_env, fairChoices_fair.cas, fairChoices_fair.clock, w_frames, w_args, w_heap, w_applies, ⟨w_consts, trivial⟩, w_rest, w_case⟩
end start1
theorem witness_1 : WitnessClaimed_1 := ⟨start1.p0, start1.e0, start1.about1, start1.theMethod, start1.args0, start1.below0, start1.atStart⟩
end Jvm.Pilot.@@N@@
