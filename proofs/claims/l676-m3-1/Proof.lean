import JvmDerived
import JvmDerived.Pilot.@@N@@Statement
import JvmDerived.Pilot.@@N@@Code
set_option linter.unusedVariables false
set_option linter.unusedSimpArgs false
namespace Jvm.RoadKit
open Sem ClassFile Op Lib Jvm.Stand Jvm.Free Jvm.LawKit
section New
variable {p : Program} {l : Launch} {e : Env} {R : Room} {s : State} {m : MethodId} {args : Array Value} {below : List Frame} {meth : Method} {c : Code} {T : State} {locs : List Loc} {cells slots : Nat}
theorem retI (X : Stand p l e R s m args below meth c T locs cells slots) (hx : p.tables.exec = Jvm.exec) {pc : Nat} {Ls : Array Slot} {z : Int32} {rest : List Value} (hret : meth.sig.returnType = some .int) (hd : decode c.code pc = .ok (.ireturn, 1)) {fs : List Frame}
    (hl : ∀ (f : JFrame) (acts : List Action), f.method = m → f.locked = none → f.entered = [] → (doReturn e (T.setTop f) acts (some (.int z))).1 = T.setFrames fs) : Steps p.tables e below (T.setTop (mkF m pc Ls (.int z :: rest))) (T.setFrames fs) := by
  have hm' : T.vm.method? m = some meth := X.method'
  have hn : narrow .int (.int z) = .int z := rfl
  show Steps p.tables e below (T.setTop { method := m, pc := pc, locals := Ls, stack := _ :: rest, locked := none }) _
  jvm_step X.here [X.here.top, hx, hd, hm', hret, hn]
  first | (intro acts; rw [hl _ acts rfl rfl rfl]) | rw [hl _ _ rfl rfl rfl]
  exact Steps.refl _
end New
end Jvm.RoadKit
namespace Jvm.Pilot.@@N@@
open Jvm Jvm.ClassFile Sem Op Lib Jvm.Free Jvm.Stand Jvm.LawKit Jvm.RoadKit Bundle Jvm.Pilot.@@N@@.Jvm.D
section Own
variable {p : Program} {l : Launch} {e : Env} {R : Room} {s : State} {m : MethodId} {args : Array Value} {below : List Frame} {meth : Method} {c : Code} {T : State} {Z : State} {h : Heap} {n0 kc ks cells slots ml pc pc' pt : Nat} {Q : Option Value → Heap → Prop} {bc : ByteArray} {y : MethodName} {rt : Option FieldType} {L L' : Array Slot} {S : List Value} {a0 : Array Value} {b : Bool} {I J : Vm → Prop}
def oSt (I : Vm → Prop) : Prop := ∀ (s : State) (vm : Vm), s.WarmedH vm → I s.vm → I vm
theorem oSt.tt : oSt (fun _ => True) := fun _ _ _ _ => trivial
theorem oSt.ib {Z : State} : oSt (fun vm => IB Z vm []) := fun s vm hW ⟨more, q1, q2⟩ => ⟨more, by rw [← q1]; exact hW.interned_eq, q2⟩
theorem oSt.lit {Z : State} {own : String} {i : Nat} {a : Addr} : oSt (fun vm => Lit (Z.setVm vm) own i a) := fun s vm hW q => State.resolvedAt?_warmed39 (s := Z.setVm s.vm) (vm' := vm) (by exact hW.wide) q
def oG (p : Program) (e : Env) (below : List Frame) (s : State) (n0 kc ks : Nat) (J : Vm → Prop) (Q : Option Value → Heap → Prop) (U : State) : Prop :=
  ∃ s₂ o, Steps p.tables e below U s₂ ∧ s₂.status = .running ∧ Ended s₂ below o ∧ ∃ v L, o = .returned v ∧ (Q v s₂.heap ∧ Fr n0 L ∧ J s₂.vm) ∧ ReturnedEndW s o s₂ L kc ks
/-- b: nothing that stood when the method was entered has been written; I: what is known of the tables -/
def oH (p : Program) (l : Launch) (e : Env) (R : Room) (s : State) (m : MethodId) (args : Array Value) (below : List Frame) (meth : Method) (c : Code) (bc : ByteArray) (ml : Nat) (y : MethodName) (rt : Option FieldType) (Z : State) (n0 : Nat) (T : State) (h : Heap) (cells slots : Nat) (b : Bool) (I : Vm → Prop) : Prop :=
  ∃ vm0 k0 locs, Stand p l e R (s.setVm vm0) m args below meth c T locs cells slots ∧ T.heap = h ∧ Fr n0 locs ∧ p.tables.exec = Jvm.exec ∧ c.code = bc ∧ c.maxLocals = ml ∧ Z.Warmed39 vm0 ∧ vm0.findClass y.cls = some m.cls ∧ meth.name = y.name ∧ meth.sig.returnType = rt ∧ meth.locks = false ∧ n0 ≤ s.heap.size ∧ s.Since vm0 k0 ∧ k0 ≤ h.size ∧ (b = true → Ext Z.heap s.heap ∧ Fr s.heap.size locs) ∧ I vm0
theorem oG.go {U U' : State} (f : ∀ t, Steps p.tables e below U' t → Steps p.tables e below U t) (k : oG p e below s n0 kc ks J Q U') : oG p e below s n0 kc ks J Q U := by
  obtain ⟨s2, o, h1, r⟩ := k
  exact ⟨s2, o, f _ h1, r⟩
theorem oH.le (H : oH p l e R s m args below meth c bc ml y rt Z n0 T h cells slots b I) : n0 ≤ h.size := by
  obtain ⟨vm0, k0, locs, X, eT, N, -, -, -, -, -, -, -, -, hn, -⟩ := H
  have q : s.heap.size ≤ T.heap.size := X.same.2.1
  rw [← eT]; exact Nat.le_trans hn q
theorem oH.weak (H : oH p l e R s m args below meth c bc ml y rt Z n0 T h cells slots b I) {J : Vm → Prop} (f : ∀ vm, I vm → J vm) : oH p l e R s m args below meth c bc ml y rt Z n0 T h cells slots false J := by
  obtain ⟨vm0, k0, locs, X, eT, N, hx, hby, hml, hZ, hown, hnm, hret, hlk, hn, hS, hk, hB, hI⟩ := H
  exact ⟨vm0, k0, locs, X, eT, N, hx, hby, hml, hZ, hown, hnm, hret, hlk, hn, hS, hk, fun q => (nomatch q), f _ hI⟩
/-- a method's contract: called with these arguments at the heap h0 it comes back with Q, within the room -/
def oC (l : Launch) (Z : State) (n0 : Nat) (I J : Vm → Prop) (y : MethodName) (bc : ByteArray) (ml : Nat) (rt : Option FieldType) (rm : Room) (kc ks : Nat) (as' : Array Value) (h0 : Heap) (Q : Option Value → Heap → Prop) : Prop :=
  ∀ ws : List Jvm.Cond, MetFree l y (head1 (Jvm.Cond.code y bc ml rt :: ws) rm) (fun a U => a = as' ∧ Z.Warmed39 U.vm ∧ U.heap = h0 ∧ I U.vm) (fun _ _ _ _ _ => True) (fun _ U o U' => ∃ v L, o = .returned v ∧ (Q v U'.heap ∧ Fr n0 L ∧ J U'.vm) ∧ ReturnedEndW U o U' L kc ks)
theorem oC.of {rm : Room} {as' : Array Value} {h0 : Heap} (hpl : plainFor y = true) (hn : n0 ≤ h0.size) (hbE : b = true → Ext Z.heap h0) (hef : ∀ m, entryFrame m as' ml = mkF m 0 L [])
    (body : ∀ (p : Program) (e : Env) (s : State) (m : MethodId) (below : List Frame) (meth : Method) (c : Code) (T : State), oH p l e rm s m as' below meth c bc ml y rt Z n0 T h0 0 0 b I → oG p e below s n0 kc ks J Q (T.setTop (mkF m 0 L []))) : oC l Z n0 I J y bc ml rt rm kc ks as' h0 Q := by
  intro ws
  refine MetFree.of_bodySF hpl hisR ?_
  intro p e s m args below meth c s₁ Bd hml0 hP hK
  obtain ⟨rfl, hZ, hh, hI⟩ := hP
  have X0 : Stand p l e rm s m args below meth c s₁ [] 0 0 := Stand.of_body Bd
  have e0 : s₁.heap = h0 := by rw [← hh, Bd.state]; rfl
  have k := body p e s m below meth c s₁ ⟨s.vm, 0, [], X0, e0, Fr.nil n0, Bd.exec, Bd.bytes, hml0, hZ, findClass_of_methodNamed Bd.named, (name_of_methodNamed Bd.named Bd.method).1, Bd.returns, Bd.notSynchronized, by rw [hh]; exact hn, (State.WarmedH.refl s).since 0, Nat.zero_le _, fun q => ⟨by rw [hh]; exact hbE q, Fr.nil _⟩, hI⟩
  rw [hef m]; exact k
theorem oC.mono {rm : Room} {as' : Array Value} {h0 : Heap} {Q' : Option Value → Heap → Prop} (k : oC l Z n0 I J y bc ml rt rm kc ks as' h0 Q') (f : ∀ v h, Q' v h → Q v h) : oC l Z n0 I J y bc ml rt rm kc ks as' h0 Q := by
  intro ws p e h1 h2 h3 s m args below h4 h5 h6 h7
  obtain ⟨n, o, a1, a2, a3, v, L, a4, ⟨a5, a6⟩, a7⟩ := k ws p e h1 h2 h3 s m args below h4 h5 h6 h7
  exact ⟨n, o, a1, a2, a3, v, L, a4, ⟨f _ _ a5, a6⟩, a7⟩
theorem o_back {yc : MethodName} {bytes : ByteArray} {maxL : Nat} {ret : Option FieldType} {rm : Room} {len W : Nat} {as' : Array Value} {Q' : Option Value → Heap → Prop}
    (con : oC l Z n0 I J yc bytes maxL ret rm rm.cells rm.slots as' h Q') (hZ : Z.Warmed39 s.vm) (hI : I s.vm) (hst : oSt I) (wc : (Jvm.Cond.code yc bytes maxL ret).before a0 Z = true) (wz : (Jvm.Cond.initialized yc.cls).before a0 Z = true) (hf : rm.frames + 1 ≤ R.frames) (hl : W + (maxL + 11) + rm.locals ≤ R.locals) :
    BackS l R p e below s args yc len W (fun A a => a = as' ∧ A.U.heap = h ∧ A.cells + rm.cells ≤ R.cells ∧ A.slots + rm.slots ≤ R.slots)
      (fun A _ v B => ∃ L, (Q' v B.U.heap ∧ Fr n0 L ∧ J B.U.vm) ∧ B.locs = A.locs ++ L ∧ B.cells = A.cells + rm.cells ∧ B.slots = A.slots + rm.slots) :=
  BackS.of_freeW (bytes := bytes) (maxL := maxL) (ret := ret) (E := fun _ _ o t L k n => k = rm.cells ∧ n = rm.slots ∧ ∃ v, o = .returned v ∧ (Q' v t.heap ∧ Fr n0 L ∧ J t.vm)) (con []) hf hl
    (fun m meth c A a Y hp => have hU : Z.Warmed39 A.U.vm := wtrans hZ Y.warmed
      ⟨by show (Jvm.Cond.and _ .tt).before a A.U = true; rw [Cond.before_and, mv hU wc]; rfl, mv hU wc, mv hU wz, hp.2.2.1, hp.2.2.2⟩)
    (fun m meth c A a g mk Y hp => ⟨hp.1, wtrans hZ Y.warmed, hp.2.1, hst s _ Y.warmed hI⟩) (fun _ _ _ _ _ _ _ _ _ => trivial)
    (fun _ _ _ _ ⟨v, L, h1, h2, h3⟩ => ⟨L, _, _, h3, rfl, rfl, v, h1, h2⟩)
    (fun m meth c A a g mk v t L k n Y hp _ _ ⟨e1, e2, v', e3, e4⟩ => by cases e3; subst e1 e2; exact ⟨L, e4, rfl, rfl, rfl⟩)
theorem o_aloadN (H : oH p l e R s m args below meth c bc ml y rt Z n0 T h cells slots b I) {k : Fin 4} {v : Value} (hl : L[k.val]? = some (.val v)) (hv : v.isRef = true) (hd : decode bc pc = .ok (.aload_n k, 1)) (hp : pc + 1 = pc') (k : oG p e below s n0 kc ks J Q (T.setTop (mkF m pc' L (v :: S)))) : oG p e below s n0 kc ks J Q (T.setTop (mkF m pc L S)) := by
  obtain ⟨vm0, k0, locs, X, eT, N, hx, hby, hml, hZ, hown, hnm, hret, hlk, hn, hS, hk, hB, hI⟩ := H
  subst hp
  exact oG.go (fun t hr => XS.aloadN X.here hx rfl (hb hby hd) hl hv hr) k
theorem o_iloadN (H : oH p l e R s m args below meth c bc ml y rt Z n0 T h cells slots b I) {k : Fin 4} {v : Int32} (hl : L[k.val]? = some (.val (.int v))) (hd : decode bc pc = .ok (.iload_n k, 1)) (hp : pc + 1 = pc') (k : oG p e below s n0 kc ks J Q (T.setTop (mkF m pc' L (.int v :: S)))) : oG p e below s n0 kc ks J Q (T.setTop (mkF m pc L S)) := by
  obtain ⟨vm0, k0, locs, X, eT, N, hx, hby, hml, hZ, hown, hnm, hret, hlk, hn, hS, hk, hB, hI⟩ := H
  subst hp
  exact oG.go (fun t hr => XS.iloadN X.here hx rfl (hb hby hd) hl hr) k
theorem o_lloadN (H : oH p l e R s m args below meth c bc ml y rt Z n0 T h cells slots b I) {k : Fin 4} {v : Int64} (hl : L[k.val]? = some (.val (.long v))) (hd : decode bc pc = .ok (.lload_n k, 1)) (hp : pc + 1 = pc') (k : oG p e below s n0 kc ks J Q (T.setTop (mkF m pc' L (.long v :: S)))) : oG p e below s n0 kc ks J Q (T.setTop (mkF m pc L S)) := by
  obtain ⟨vm0, k0, locs, X, eT, N, hx, hby, hml, hZ, hown, hnm, hret, hlk, hn, hS, hk, hB, hI⟩ := H
  subst hp
  exact oG.go (fun t hr => XT.lloadN X.here hx rfl (hb hby hd) hl hr) k
theorem o_astoreN (H : oH p l e R s m args below meth c bc ml y rt Z n0 T h cells slots b I) {k : Fin 4} {v : Value} (hl : storeLocals L k.val v = some L') (hv : v.isRef = true) (hd : decode bc pc = .ok (.astore_n k, 1)) (hp : pc + 1 = pc') (k : oG p e below s n0 kc ks J Q (T.setTop (mkF m pc' L' S))) : oG p e below s n0 kc ks J Q (T.setTop (mkF m pc L (v :: S))) := by
  obtain ⟨vm0, k0, locs, X, eT, N, hx, hby, hml, hZ, hown, hnm, hret, hlk, hn, hS, hk, hB, hI⟩ := H
  subst hp
  exact oG.go (fun t hr => XS.astoreN X.here hx rfl (hb hby hd) rfl hv hl hr) k
theorem o_istoreN (H : oH p l e R s m args below meth c bc ml y rt Z n0 T h cells slots b I) {k : Fin 4} {v : Int32} (hl : storeLocals L k.val (.int v) = some L') (hd : decode bc pc = .ok (.istore_n k, 1)) (hp : pc + 1 = pc') (k : oG p e below s n0 kc ks J Q (T.setTop (mkF m pc' L' S))) : oG p e below s n0 kc ks J Q (T.setTop (mkF m pc L (.int v :: S))) := by
  obtain ⟨vm0, k0, locs, X, eT, N, hx, hby, hml, hZ, hown, hnm, hret, hlk, hn, hS, hk, hB, hI⟩ := H
  subst hp
  exact oG.go (fun t hr => XS.istoreN X.here hx rfl (hb hby hd) rfl hl hr) k
theorem o_lstoreN (H : oH p l e R s m args below meth c bc ml y rt Z n0 T h cells slots b I) {k : Fin 4} {v : Int64} (hl : storeLocals L k.val (.long v) = some L') (hd : decode bc pc = .ok (.lstore_n k, 1)) (hp : pc + 1 = pc') (k : oG p e below s n0 kc ks J Q (T.setTop (mkF m pc' L' S))) : oG p e below s n0 kc ks J Q (T.setTop (mkF m pc L (.long v :: S))) := by
  obtain ⟨vm0, k0, locs, X, eT, N, hx, hby, hml, hZ, hown, hnm, hret, hlk, hn, hS, hk, hB, hI⟩ := H
  subst hp
  exact oG.go (fun t hr => XT.lstoreN X.here hx rfl (hb hby hd) rfl hl hr) k
theorem o_aload (H : oH p l e R s m args below meth c bc ml y rt Z n0 T h cells slots b I) {k : Nat} {v : Value} (hl : L[k]? = some (.val v)) (hv : v.isRef = true) (hd : decode bc pc = .ok (.aload k, 2)) (hp : pc + 2 = pc') (k : oG p e below s n0 kc ks J Q (T.setTop (mkF m pc' L (v :: S)))) : oG p e below s n0 kc ks J Q (T.setTop (mkF m pc L S)) := by
  obtain ⟨vm0, k0, locs, X, eT, N, hx, hby, hml, hZ, hown, hnm, hret, hlk, hn, hS, hk, hB, hI⟩ := H
  subst hp
  exact oG.go (fun t hr => XS.aload X.here hx rfl (hb hby hd) hl hv hr) k
theorem o_iload (H : oH p l e R s m args below meth c bc ml y rt Z n0 T h cells slots b I) {k : Nat} {v : Int32} (hl : L[k]? = some (.val (.int v))) (hd : decode bc pc = .ok (.iload k, 2)) (hp : pc + 2 = pc') (k : oG p e below s n0 kc ks J Q (T.setTop (mkF m pc' L (.int v :: S)))) : oG p e below s n0 kc ks J Q (T.setTop (mkF m pc L S)) := by
  obtain ⟨vm0, k0, locs, X, eT, N, hx, hby, hml, hZ, hown, hnm, hret, hlk, hn, hS, hk, hB, hI⟩ := H
  subst hp
  exact oG.go (fun t hr => XS.iload X.here hx rfl (hb hby hd) hl hr) k
theorem o_lload (H : oH p l e R s m args below meth c bc ml y rt Z n0 T h cells slots b I) {k : Nat} {v : Int64} (hl : L[k]? = some (.val (.long v))) (hd : decode bc pc = .ok (.lload k, 2)) (hp : pc + 2 = pc') (k : oG p e below s n0 kc ks J Q (T.setTop (mkF m pc' L (.long v :: S)))) : oG p e below s n0 kc ks J Q (T.setTop (mkF m pc L S)) := by
  obtain ⟨vm0, k0, locs, X, eT, N, hx, hby, hml, hZ, hown, hnm, hret, hlk, hn, hS, hk, hB, hI⟩ := H
  subst hp
  exact oG.go (fun t hr => XT.lload X.here hx rfl (hb hby hd) hl hr) k
theorem o_astore (H : oH p l e R s m args below meth c bc ml y rt Z n0 T h cells slots b I) {k : Nat} {v : Value} (hl : storeLocals L k v = some L') (hv : v.isRef = true) (hd : decode bc pc = .ok (.astore k, 2)) (hp : pc + 2 = pc') (k : oG p e below s n0 kc ks J Q (T.setTop (mkF m pc' L' S))) : oG p e below s n0 kc ks J Q (T.setTop (mkF m pc L (v :: S))) := by
  obtain ⟨vm0, k0, locs, X, eT, N, hx, hby, hml, hZ, hown, hnm, hret, hlk, hn, hS, hk, hB, hI⟩ := H
  subst hp
  exact oG.go (fun t hr => XS.astore X.here hx rfl (hb hby hd) rfl hv hl hr) k
theorem o_istore (H : oH p l e R s m args below meth c bc ml y rt Z n0 T h cells slots b I) {k : Nat} {v : Int32} (hl : storeLocals L k (.int v) = some L') (hd : decode bc pc = .ok (.istore k, 2)) (hp : pc + 2 = pc') (k : oG p e below s n0 kc ks J Q (T.setTop (mkF m pc' L' S))) : oG p e below s n0 kc ks J Q (T.setTop (mkF m pc L (.int v :: S))) := by
  obtain ⟨vm0, k0, locs, X, eT, N, hx, hby, hml, hZ, hown, hnm, hret, hlk, hn, hS, hk, hB, hI⟩ := H
  subst hp
  exact oG.go (fun t hr => XS.istore X.here hx rfl (hb hby hd) rfl hl hr) k
theorem o_lstore (H : oH p l e R s m args below meth c bc ml y rt Z n0 T h cells slots b I) {k : Nat} {v : Int64} (hl : storeLocals L k (.long v) = some L') (hd : decode bc pc = .ok (.lstore k, 2)) (hp : pc + 2 = pc') (k : oG p e below s n0 kc ks J Q (T.setTop (mkF m pc' L' S))) : oG p e below s n0 kc ks J Q (T.setTop (mkF m pc L (.long v :: S))) := by
  obtain ⟨vm0, k0, locs, X, eT, N, hx, hby, hml, hZ, hown, hnm, hret, hlk, hn, hS, hk, hB, hI⟩ := H
  subst hp
  exact oG.go (fun t hr => XT.lstore X.here hx rfl (hb hby hd) rfl hl hr) k
theorem o_iconst (H : oH p l e R s m args below meth c bc ml y rt Z n0 T h cells slots b I) {i : Int} (v : Int32) (hv : Int32.ofInt i = v) (hd : decode bc pc = .ok (.iconst i, 1)) (hp : pc + 1 = pc') (k : oG p e below s n0 kc ks J Q (T.setTop (mkF m pc' L (.int v :: S)))) : oG p e below s n0 kc ks J Q (T.setTop (mkF m pc L S)) := by
  obtain ⟨vm0, k0, locs, X, eT, N, hx, hby, hml, hZ, hown, hnm, hret, hlk, hn, hS, hk, hB, hI⟩ := H
  subst hp
  exact oG.go (fun t hr => XT.iconstV X.here hx rfl v (hb hby hd) hv hr) k
theorem o_bipush (H : oH p l e R s m args below meth c bc ml y rt Z n0 T h cells slots b I) {i : Int} (v : Int32) (hv : (Int8.ofInt i).toInt32 = v) (hd : decode bc pc = .ok (.bipush i, 2)) (hp : pc + 2 = pc') (k : oG p e below s n0 kc ks J Q (T.setTop (mkF m pc' L (.int v :: S)))) : oG p e below s n0 kc ks J Q (T.setTop (mkF m pc L S)) := by
  obtain ⟨vm0, k0, locs, X, eT, N, hx, hby, hml, hZ, hown, hnm, hret, hlk, hn, hS, hk, hB, hI⟩ := H
  subst hp
  exact oG.go (fun t hr => XT.bipushV X.here hx rfl v (hb hby hd) hv hr) k
theorem o_sipush (H : oH p l e R s m args below meth c bc ml y rt Z n0 T h cells slots b I) {i : Int} (v : Int32) (hv : (Int16.ofInt i).toInt32 = v) (hd : decode bc pc = .ok (.sipush i, 3)) (hp : pc + 3 = pc') (k : oG p e below s n0 kc ks J Q (T.setTop (mkF m pc' L (.int v :: S)))) : oG p e below s n0 kc ks J Q (T.setTop (mkF m pc L S)) := by
  obtain ⟨vm0, k0, locs, X, eT, N, hx, hby, hml, hZ, hown, hnm, hret, hlk, hn, hS, hk, hB, hI⟩ := H
  subst hp
  exact oG.go (fun t hr => XT.sipushV X.here hx rfl v (hb hby hd) hv hr) k
theorem o_lconst (H : oH p l e R s m args below meth c bc ml y rt Z n0 T h cells slots b I) {i : Fin 2} (v : Int64) (hv : Int64.ofNat i = v) (hd : decode bc pc = .ok (.lconst i, 1)) (hp : pc + 1 = pc') (k : oG p e below s n0 kc ks J Q (T.setTop (mkF m pc' L (.long v :: S)))) : oG p e below s n0 kc ks J Q (T.setTop (mkF m pc L S)) := by
  obtain ⟨vm0, k0, locs, X, eT, N, hx, hby, hml, hZ, hown, hnm, hret, hlk, hn, hS, hk, hB, hI⟩ := H
  subst hp
  exact oG.go (fun t hr => XT.lconstV X.here hx rfl v (hb hby hd) hv hr) k
theorem o_aconst_null (H : oH p l e R s m args below meth c bc ml y rt Z n0 T h cells slots b I)   (hd : decode bc pc = .ok (.aconst_null, 1)) (hp : pc + 1 = pc') (k : oG p e below s n0 kc ks J Q (T.setTop (mkF m pc' L (.null :: S)))) : oG p e below s n0 kc ks J Q (T.setTop (mkF m pc L S)) := by
  obtain ⟨vm0, k0, locs, X, eT, N, hx, hby, hml, hZ, hown, hnm, hret, hlk, hn, hS, hk, hB, hI⟩ := H
  subst hp
  exact oG.go (fun t hr => XS.aconstNull X.here hx rfl (hb hby hd) hr) k
theorem o_iadd (H : oH p l e R s m args below meth c bc ml y rt Z n0 T h cells slots b I) {x z : Int32}  (hd : decode bc pc = .ok (.iadd, 1)) (hp : pc + 1 = pc') (k : oG p e below s n0 kc ks J Q (T.setTop (mkF m pc' L (.int (x + z) :: S)))) : oG p e below s n0 kc ks J Q (T.setTop (mkF m pc L (.int z :: .int x :: S))) := by
  obtain ⟨vm0, k0, locs, X, eT, N, hx, hby, hml, hZ, hown, hnm, hret, hlk, hn, hS, hk, hB, hI⟩ := H
  subst hp
  exact oG.go (fun t hr => XS.iadd X.here hx rfl (hb hby hd) rfl hr) k
theorem o_isub (H : oH p l e R s m args below meth c bc ml y rt Z n0 T h cells slots b I) {x z : Int32}  (hd : decode bc pc = .ok (.isub, 1)) (hp : pc + 1 = pc') (k : oG p e below s n0 kc ks J Q (T.setTop (mkF m pc' L (.int (x - z) :: S)))) : oG p e below s n0 kc ks J Q (T.setTop (mkF m pc L (.int z :: .int x :: S))) := by
  obtain ⟨vm0, k0, locs, X, eT, N, hx, hby, hml, hZ, hown, hnm, hret, hlk, hn, hS, hk, hB, hI⟩ := H
  subst hp
  exact oG.go (fun t hr => XS.isub X.here hx rfl (hb hby hd) rfl hr) k
theorem o_imul (H : oH p l e R s m args below meth c bc ml y rt Z n0 T h cells slots b I) {x z : Int32}  (hd : decode bc pc = .ok (.imul, 1)) (hp : pc + 1 = pc') (k : oG p e below s n0 kc ks J Q (T.setTop (mkF m pc' L (.int (x * z) :: S)))) : oG p e below s n0 kc ks J Q (T.setTop (mkF m pc L (.int z :: .int x :: S))) := by
  obtain ⟨vm0, k0, locs, X, eT, N, hx, hby, hml, hZ, hown, hnm, hret, hlk, hn, hS, hk, hB, hI⟩ := H
  subst hp
  exact oG.go (fun t hr => XS.imul X.here hx rfl (hb hby hd) rfl hr) k
theorem o_iand (H : oH p l e R s m args below meth c bc ml y rt Z n0 T h cells slots b I) {x z : Int32}  (hd : decode bc pc = .ok (.iand, 1)) (hp : pc + 1 = pc') (k : oG p e below s n0 kc ks J Q (T.setTop (mkF m pc' L (.int (x &&& z) :: S)))) : oG p e below s n0 kc ks J Q (T.setTop (mkF m pc L (.int z :: .int x :: S))) := by
  obtain ⟨vm0, k0, locs, X, eT, N, hx, hby, hml, hZ, hown, hnm, hret, hlk, hn, hS, hk, hB, hI⟩ := H
  subst hp
  exact oG.go (fun t hr => XS.iand X.here hx rfl (hb hby hd) rfl hr) k
theorem o_ior (H : oH p l e R s m args below meth c bc ml y rt Z n0 T h cells slots b I) {x z : Int32}  (hd : decode bc pc = .ok (.ior, 1)) (hp : pc + 1 = pc') (k : oG p e below s n0 kc ks J Q (T.setTop (mkF m pc' L (.int (x ||| z) :: S)))) : oG p e below s n0 kc ks J Q (T.setTop (mkF m pc L (.int z :: .int x :: S))) := by
  obtain ⟨vm0, k0, locs, X, eT, N, hx, hby, hml, hZ, hown, hnm, hret, hlk, hn, hS, hk, hB, hI⟩ := H
  subst hp
  exact oG.go (fun t hr => XT.ior X.here hx rfl (hb hby hd) rfl hr) k
theorem o_ixor (H : oH p l e R s m args below meth c bc ml y rt Z n0 T h cells slots b I) {x z : Int32}  (hd : decode bc pc = .ok (.ixor, 1)) (hp : pc + 1 = pc') (k : oG p e below s n0 kc ks J Q (T.setTop (mkF m pc' L (.int (x ^^^ z) :: S)))) : oG p e below s n0 kc ks J Q (T.setTop (mkF m pc L (.int z :: .int x :: S))) := by
  obtain ⟨vm0, k0, locs, X, eT, N, hx, hby, hml, hZ, hown, hnm, hret, hlk, hn, hS, hk, hB, hI⟩ := H
  subst hp
  exact oG.go (fun t hr => XT.ixor X.here hx rfl (hb hby hd) rfl hr) k
theorem o_ishl (H : oH p l e R s m args below meth c bc ml y rt Z n0 T h cells slots b I) {x z : Int32}  (hd : decode bc pc = .ok (.ishl, 1)) (hp : pc + 1 = pc') (k : oG p e below s n0 kc ks J Q (T.setTop (mkF m pc' L (.int (x <<< (z &&& 31)) :: S)))) : oG p e below s n0 kc ks J Q (T.setTop (mkF m pc L (.int z :: .int x :: S))) := by
  obtain ⟨vm0, k0, locs, X, eT, N, hx, hby, hml, hZ, hown, hnm, hret, hlk, hn, hS, hk, hB, hI⟩ := H
  subst hp
  exact oG.go (fun t hr => XT.ishl X.here hx rfl (hb hby hd) rfl hr) k
theorem o_ishr (H : oH p l e R s m args below meth c bc ml y rt Z n0 T h cells slots b I) {x z : Int32}  (hd : decode bc pc = .ok (.ishr, 1)) (hp : pc + 1 = pc') (k : oG p e below s n0 kc ks J Q (T.setTop (mkF m pc' L (.int (x >>> (z &&& 31)) :: S)))) : oG p e below s n0 kc ks J Q (T.setTop (mkF m pc L (.int z :: .int x :: S))) := by
  obtain ⟨vm0, k0, locs, X, eT, N, hx, hby, hml, hZ, hown, hnm, hret, hlk, hn, hS, hk, hB, hI⟩ := H
  subst hp
  exact oG.go (fun t hr => XT.ishr X.here hx rfl (hb hby hd) rfl hr) k
theorem o_iushr (H : oH p l e R s m args below meth c bc ml y rt Z n0 T h cells slots b I) {x z : Int32}  (hd : decode bc pc = .ok (.iushr, 1)) (hp : pc + 1 = pc') (k : oG p e below s n0 kc ks J Q (T.setTop (mkF m pc' L (.int (XT.ushr x z) :: S)))) : oG p e below s n0 kc ks J Q (T.setTop (mkF m pc L (.int z :: .int x :: S))) := by
  obtain ⟨vm0, k0, locs, X, eT, N, hx, hby, hml, hZ, hown, hnm, hret, hlk, hn, hS, hk, hB, hI⟩ := H
  subst hp
  exact oG.go (fun t hr => XT.iushr X.here hx rfl (hb hby hd) rfl hr) k
theorem o_ladd (H : oH p l e R s m args below meth c bc ml y rt Z n0 T h cells slots b I) {x z : Int64}  (hd : decode bc pc = .ok (.ladd, 1)) (hp : pc + 1 = pc') (k : oG p e below s n0 kc ks J Q (T.setTop (mkF m pc' L (.long (x + z) :: S)))) : oG p e below s n0 kc ks J Q (T.setTop (mkF m pc L (.long z :: .long x :: S))) := by
  obtain ⟨vm0, k0, locs, X, eT, N, hx, hby, hml, hZ, hown, hnm, hret, hlk, hn, hS, hk, hB, hI⟩ := H
  subst hp
  exact oG.go (fun t hr => XT.ladd X.here hx rfl (hb hby hd) rfl hr) k
theorem o_lsub (H : oH p l e R s m args below meth c bc ml y rt Z n0 T h cells slots b I) {x z : Int64}  (hd : decode bc pc = .ok (.lsub, 1)) (hp : pc + 1 = pc') (k : oG p e below s n0 kc ks J Q (T.setTop (mkF m pc' L (.long (x - z) :: S)))) : oG p e below s n0 kc ks J Q (T.setTop (mkF m pc L (.long z :: .long x :: S))) := by
  obtain ⟨vm0, k0, locs, X, eT, N, hx, hby, hml, hZ, hown, hnm, hret, hlk, hn, hS, hk, hB, hI⟩ := H
  subst hp
  exact oG.go (fun t hr => XT.lsub X.here hx rfl (hb hby hd) rfl hr) k
theorem o_lmul (H : oH p l e R s m args below meth c bc ml y rt Z n0 T h cells slots b I) {x z : Int64}  (hd : decode bc pc = .ok (.lmul, 1)) (hp : pc + 1 = pc') (k : oG p e below s n0 kc ks J Q (T.setTop (mkF m pc' L (.long (x * z) :: S)))) : oG p e below s n0 kc ks J Q (T.setTop (mkF m pc L (.long z :: .long x :: S))) := by
  obtain ⟨vm0, k0, locs, X, eT, N, hx, hby, hml, hZ, hown, hnm, hret, hlk, hn, hS, hk, hB, hI⟩ := H
  subst hp
  exact oG.go (fun t hr => XT.lmul X.here hx rfl (hb hby hd) rfl hr) k
theorem o_land (H : oH p l e R s m args below meth c bc ml y rt Z n0 T h cells slots b I) {x z : Int64}  (hd : decode bc pc = .ok (.land, 1)) (hp : pc + 1 = pc') (k : oG p e below s n0 kc ks J Q (T.setTop (mkF m pc' L (.long (x &&& z) :: S)))) : oG p e below s n0 kc ks J Q (T.setTop (mkF m pc L (.long z :: .long x :: S))) := by
  obtain ⟨vm0, k0, locs, X, eT, N, hx, hby, hml, hZ, hown, hnm, hret, hlk, hn, hS, hk, hB, hI⟩ := H
  subst hp
  exact oG.go (fun t hr => XT.land X.here hx rfl (hb hby hd) rfl hr) k
theorem o_lor (H : oH p l e R s m args below meth c bc ml y rt Z n0 T h cells slots b I) {x z : Int64}  (hd : decode bc pc = .ok (.lor, 1)) (hp : pc + 1 = pc') (k : oG p e below s n0 kc ks J Q (T.setTop (mkF m pc' L (.long (x ||| z) :: S)))) : oG p e below s n0 kc ks J Q (T.setTop (mkF m pc L (.long z :: .long x :: S))) := by
  obtain ⟨vm0, k0, locs, X, eT, N, hx, hby, hml, hZ, hown, hnm, hret, hlk, hn, hS, hk, hB, hI⟩ := H
  subst hp
  exact oG.go (fun t hr => XT.lor X.here hx rfl (hb hby hd) rfl hr) k
theorem o_lxor (H : oH p l e R s m args below meth c bc ml y rt Z n0 T h cells slots b I) {x z : Int64}  (hd : decode bc pc = .ok (.lxor, 1)) (hp : pc + 1 = pc') (k : oG p e below s n0 kc ks J Q (T.setTop (mkF m pc' L (.long (x ^^^ z) :: S)))) : oG p e below s n0 kc ks J Q (T.setTop (mkF m pc L (.long z :: .long x :: S))) := by
  obtain ⟨vm0, k0, locs, X, eT, N, hx, hby, hml, hZ, hown, hnm, hret, hlk, hn, hS, hk, hB, hI⟩ := H
  subst hp
  exact oG.go (fun t hr => XT.lxor X.here hx rfl (hb hby hd) rfl hr) k
theorem o_lcmp (H : oH p l e R s m args below meth c bc ml y rt Z n0 T h cells slots b I) {x z : Int64}  (hd : decode bc pc = .ok (.lcmp, 1)) (hp : pc + 1 = pc') (k : oG p e below s n0 kc ks J Q (T.setTop (mkF m pc' L (.int (XT.cmpL x z) :: S)))) : oG p e below s n0 kc ks J Q (T.setTop (mkF m pc L (.long z :: .long x :: S))) := by
  obtain ⟨vm0, k0, locs, X, eT, N, hx, hby, hml, hZ, hown, hnm, hret, hlk, hn, hS, hk, hB, hI⟩ := H
  subst hp
  exact oG.go (fun t hr => XT.lcmp X.here hx rfl (hb hby hd) rfl hr) k
theorem o_lshl (H : oH p l e R s m args below meth c bc ml y rt Z n0 T h cells slots b I) {x : Int64} {z : Int32}  (hd : decode bc pc = .ok (.lshl, 1)) (hp : pc + 1 = pc') (k : oG p e below s n0 kc ks J Q (T.setTop (mkF m pc' L (.long (x <<< (z.toInt64 &&& 63)) :: S)))) : oG p e below s n0 kc ks J Q (T.setTop (mkF m pc L (.int z :: .long x :: S))) := by
  obtain ⟨vm0, k0, locs, X, eT, N, hx, hby, hml, hZ, hown, hnm, hret, hlk, hn, hS, hk, hB, hI⟩ := H
  subst hp
  exact oG.go (fun t hr => XT.lshl X.here hx rfl (hb hby hd) rfl hr) k
theorem o_lshr (H : oH p l e R s m args below meth c bc ml y rt Z n0 T h cells slots b I) {x : Int64} {z : Int32}  (hd : decode bc pc = .ok (.lshr, 1)) (hp : pc + 1 = pc') (k : oG p e below s n0 kc ks J Q (T.setTop (mkF m pc' L (.long (x >>> (z.toInt64 &&& 63)) :: S)))) : oG p e below s n0 kc ks J Q (T.setTop (mkF m pc L (.int z :: .long x :: S))) := by
  obtain ⟨vm0, k0, locs, X, eT, N, hx, hby, hml, hZ, hown, hnm, hret, hlk, hn, hS, hk, hB, hI⟩ := H
  subst hp
  exact oG.go (fun t hr => XT.lshr X.here hx rfl (hb hby hd) rfl hr) k
theorem o_lushr (H : oH p l e R s m args below meth c bc ml y rt Z n0 T h cells slots b I) {x : Int64} {z : Int32}  (hd : decode bc pc = .ok (.lushr, 1)) (hp : pc + 1 = pc') (k : oG p e below s n0 kc ks J Q (T.setTop (mkF m pc' L (.long (XT.ushrL x z) :: S)))) : oG p e below s n0 kc ks J Q (T.setTop (mkF m pc L (.int z :: .long x :: S))) := by
  obtain ⟨vm0, k0, locs, X, eT, N, hx, hby, hml, hZ, hown, hnm, hret, hlk, hn, hS, hk, hB, hI⟩ := H
  subst hp
  exact oG.go (fun t hr => XT.lushr X.here hx rfl (hb hby hd) rfl hr) k
theorem o_idiv (H : oH p l e R s m args below meth c bc ml y rt Z n0 T h cells slots b I) {x z : Int32} (hz : z ≠ 0) (hd : decode bc pc = .ok (.idiv, 1)) (hp : pc + 1 = pc') (k : oG p e below s n0 kc ks J Q (T.setTop (mkF m pc' L (.int (x / z) :: S)))) : oG p e below s n0 kc ks J Q (T.setTop (mkF m pc L (.int z :: .int x :: S))) := by
  obtain ⟨vm0, k0, locs, X, eT, N, hx, hby, hml, hZ, hown, hnm, hret, hlk, hn, hS, hk, hB, hI⟩ := H
  subst hp
  exact oG.go (fun t hr => XS.idiv X.here hx rfl (hb hby hd) rfl hz hr) k
theorem o_irem (H : oH p l e R s m args below meth c bc ml y rt Z n0 T h cells slots b I) {x z : Int32} (hz : z ≠ 0) (hd : decode bc pc = .ok (.irem, 1)) (hp : pc + 1 = pc') (k : oG p e below s n0 kc ks J Q (T.setTop (mkF m pc' L (.int (x % z) :: S)))) : oG p e below s n0 kc ks J Q (T.setTop (mkF m pc L (.int z :: .int x :: S))) := by
  obtain ⟨vm0, k0, locs, X, eT, N, hx, hby, hml, hZ, hown, hnm, hret, hlk, hn, hS, hk, hB, hI⟩ := H
  subst hp
  exact oG.go (fun t hr => iremM X hx rfl (hb hby hd) rfl hz hr) k
theorem o_ineg (H : oH p l e R s m args below meth c bc ml y rt Z n0 T h cells slots b I) {x : Int32}  (hd : decode bc pc = .ok (.ineg, 1)) (hp : pc + 1 = pc') (k : oG p e below s n0 kc ks J Q (T.setTop (mkF m pc' L (.int (-x) :: S)))) : oG p e below s n0 kc ks J Q (T.setTop (mkF m pc L (.int x :: S))) := by
  obtain ⟨vm0, k0, locs, X, eT, N, hx, hby, hml, hZ, hown, hnm, hret, hlk, hn, hS, hk, hB, hI⟩ := H
  subst hp
  exact oG.go (fun t hr => XS.ineg X.here hx rfl (hb hby hd) rfl hr) k
theorem o_lneg (H : oH p l e R s m args below meth c bc ml y rt Z n0 T h cells slots b I) {x : Int64}  (hd : decode bc pc = .ok (.lneg, 1)) (hp : pc + 1 = pc') (k : oG p e below s n0 kc ks J Q (T.setTop (mkF m pc' L (.long (-x) :: S)))) : oG p e below s n0 kc ks J Q (T.setTop (mkF m pc L (.long x :: S))) := by
  obtain ⟨vm0, k0, locs, X, eT, N, hx, hby, hml, hZ, hown, hnm, hret, hlk, hn, hS, hk, hB, hI⟩ := H
  subst hp
  exact oG.go (fun t hr => XT.lneg X.here hx rfl (hb hby hd) rfl hr) k
theorem o_i2l (H : oH p l e R s m args below meth c bc ml y rt Z n0 T h cells slots b I) {x : Int32}  (hd : decode bc pc = .ok (.i2l, 1)) (hp : pc + 1 = pc') (k : oG p e below s n0 kc ks J Q (T.setTop (mkF m pc' L (.long x.toInt64 :: S)))) : oG p e below s n0 kc ks J Q (T.setTop (mkF m pc L (.int x :: S))) := by
  obtain ⟨vm0, k0, locs, X, eT, N, hx, hby, hml, hZ, hown, hnm, hret, hlk, hn, hS, hk, hB, hI⟩ := H
  subst hp
  exact oG.go (fun t hr => XT.i2l X.here hx rfl (hb hby hd) rfl hr) k
theorem o_l2i (H : oH p l e R s m args below meth c bc ml y rt Z n0 T h cells slots b I) {x : Int64}  (hd : decode bc pc = .ok (.l2i, 1)) (hp : pc + 1 = pc') (k : oG p e below s n0 kc ks J Q (T.setTop (mkF m pc' L (.int x.toInt32 :: S)))) : oG p e below s n0 kc ks J Q (T.setTop (mkF m pc L (.long x :: S))) := by
  obtain ⟨vm0, k0, locs, X, eT, N, hx, hby, hml, hZ, hown, hnm, hret, hlk, hn, hS, hk, hB, hI⟩ := H
  subst hp
  exact oG.go (fun t hr => XT.l2i X.here hx rfl (hb hby hd) rfl hr) k
theorem o_i2b (H : oH p l e R s m args below meth c bc ml y rt Z n0 T h cells slots b I) {x : Int32}  (hd : decode bc pc = .ok (.i2b, 1)) (hp : pc + 1 = pc') (k : oG p e below s n0 kc ks J Q (T.setTop (mkF m pc' L (.int x.toInt8.toInt32 :: S)))) : oG p e below s n0 kc ks J Q (T.setTop (mkF m pc L (.int x :: S))) := by
  obtain ⟨vm0, k0, locs, X, eT, N, hx, hby, hml, hZ, hown, hnm, hret, hlk, hn, hS, hk, hB, hI⟩ := H
  subst hp
  exact oG.go (fun t hr => XT.i2b X.here hx rfl (hb hby hd) rfl hr) k
theorem o_i2c (H : oH p l e R s m args below meth c bc ml y rt Z n0 T h cells slots b I) {x : Int32}  (hd : decode bc pc = .ok (.i2c, 1)) (hp : pc + 1 = pc') (k : oG p e below s n0 kc ks J Q (T.setTop (mkF m pc' L (.int x.toUInt32.toUInt16.toUInt32.toInt32 :: S)))) : oG p e below s n0 kc ks J Q (T.setTop (mkF m pc L (.int x :: S))) := by
  obtain ⟨vm0, k0, locs, X, eT, N, hx, hby, hml, hZ, hown, hnm, hret, hlk, hn, hS, hk, hB, hI⟩ := H
  subst hp
  exact oG.go (fun t hr => XT.i2c X.here hx rfl (hb hby hd) rfl hr) k
theorem o_i2s (H : oH p l e R s m args below meth c bc ml y rt Z n0 T h cells slots b I) {x : Int32}  (hd : decode bc pc = .ok (.i2s, 1)) (hp : pc + 1 = pc') (k : oG p e below s n0 kc ks J Q (T.setTop (mkF m pc' L (.int x.toInt16.toInt32 :: S)))) : oG p e below s n0 kc ks J Q (T.setTop (mkF m pc L (.int x :: S))) := by
  obtain ⟨vm0, k0, locs, X, eT, N, hx, hby, hml, hZ, hown, hnm, hret, hlk, hn, hS, hk, hB, hI⟩ := H
  subst hp
  exact oG.go (fun t hr => XT.i2s X.here hx rfl (hb hby hd) rfl hr) k
theorem o_iinc (H : oH p l e R s m args below meth c bc ml y rt Z n0 T h cells slots b I) {j : Nat} {cst : Int} {x : Int32} (v u : Int32) (hv : Int32.ofInt cst = v) (hu : x + v = u) (hl : L[j]? = some (.val (.int x))) (hl' : storeLocals L j (.int u) = some L') (hd : decode bc pc = .ok (.iinc j cst, 3)) (hp : pc + 3 = pc') (k : oG p e below s n0 kc ks J Q (T.setTop (mkF m pc' L' S))) : oG p e below s n0 kc ks J Q (T.setTop (mkF m pc L S)) := by
  obtain ⟨vm0, k0, locs, X, eT, N, hx, hby, hml, hZ, hown, hnm, hret, hlk, hn, hS, hk, hB, hI⟩ := H
  subst hp
  exact oG.go (fun t hr => XT.iincV X.here hx rfl v (hb hby hd) hv hl (hu ▸ hl') hr) k
theorem o_fold {x : Int32} (v : Int32) (hv : x = v) (k : oG p e below s n0 kc ks J Q (T.setTop (mkF m pc L (.int v :: S)))) : oG p e below s n0 kc ks J Q (T.setTop (mkF m pc L (.int x :: S))) := hv ▸ k
theorem o_foldJ {x : Int64} (v : Int64) (hv : x = v) (k : oG p e below s n0 kc ks J Q (T.setTop (mkF m pc L (.long v :: S)))) : oG p e below s n0 kc ks J Q (T.setTop (mkF m pc L (.long x :: S))) := hv ▸ k
theorem o_dup (H : oH p l e R s m args below meth c bc ml y rt Z n0 T h cells slots b I) {v : Value} (hc : v.category = 1) (hd : decode bc pc = .ok (.dup, 1)) (hp : pc + 1 = pc') (k : oG p e below s n0 kc ks J Q (T.setTop (mkF m pc' L (v :: v :: S)))) : oG p e below s n0 kc ks J Q (T.setTop (mkF m pc L (v :: S))) := by
  obtain ⟨vm0, k0, locs, X, eT, N, hx, hby, hml, hZ, hown, hnm, hret, hlk, hn, hS, hk, hB, hI⟩ := H
  subst hp
  exact oG.go (fun t hr => XS.dup X.here hx rfl (hb hby hd) rfl hc hr) k
theorem o_dup_x1 (H : oH p l e R s m args below meth c bc ml y rt Z n0 T h cells slots b I) {v w : Value} (hc : v.category = 1) (hc' : w.category = 1) (hd : decode bc pc = .ok (.dup_x1, 1)) (hp : pc + 1 = pc') (k : oG p e below s n0 kc ks J Q (T.setTop (mkF m pc' L (v :: w :: v :: S)))) : oG p e below s n0 kc ks J Q (T.setTop (mkF m pc L (v :: w :: S))) := by
  obtain ⟨vm0, k0, locs, X, eT, N, hx, hby, hml, hZ, hown, hnm, hret, hlk, hn, hS, hk, hB, hI⟩ := H
  subst hp
  exact oG.go (fun t hr => XT.dupX1 X.here hx rfl (hb hby hd) rfl hc hc' hr) k
theorem o_dup2 (H : oH p l e R s m args below meth c bc ml y rt Z n0 T h cells slots b I) {v w : Value} (hc : v.category = 1) (hc' : w.category = 1) (hd : decode bc pc = .ok (.dup2, 1)) (hp : pc + 1 = pc') (k : oG p e below s n0 kc ks J Q (T.setTop (mkF m pc' L (v :: w :: v :: w :: S)))) : oG p e below s n0 kc ks J Q (T.setTop (mkF m pc L (v :: w :: S))) := by
  obtain ⟨vm0, k0, locs, X, eT, N, hx, hby, hml, hZ, hown, hnm, hret, hlk, hn, hS, hk, hB, hI⟩ := H
  subst hp
  exact oG.go (fun t hr => XT.dup2 X.here hx rfl (hb hby hd) rfl hc hc' hr) k
theorem o_dup2L (H : oH p l e R s m args below meth c bc ml y rt Z n0 T h cells slots b I) {v : Int64}  (hd : decode bc pc = .ok (.dup2, 1)) (hp : pc + 1 = pc') (k : oG p e below s n0 kc ks J Q (T.setTop (mkF m pc' L (.long v :: .long v :: S)))) : oG p e below s n0 kc ks J Q (T.setTop (mkF m pc L (.long v :: S))) := by
  obtain ⟨vm0, k0, locs, X, eT, N, hx, hby, hml, hZ, hown, hnm, hret, hlk, hn, hS, hk, hB, hI⟩ := H
  subst hp
  exact oG.go (fun t hr => XT.dup2L X.here hx rfl (hb hby hd) rfl hr) k
theorem o_pop (H : oH p l e R s m args below meth c bc ml y rt Z n0 T h cells slots b I) {v : Value} (hc : v.category = 1) (hd : decode bc pc = .ok (.pop, 1)) (hp : pc + 1 = pc') (k : oG p e below s n0 kc ks J Q (T.setTop (mkF m pc' L S))) : oG p e below s n0 kc ks J Q (T.setTop (mkF m pc L (v :: S))) := by
  obtain ⟨vm0, k0, locs, X, eT, N, hx, hby, hml, hZ, hown, hnm, hret, hlk, hn, hS, hk, hB, hI⟩ := H
  subst hp
  exact oG.go (fun t hr => XT.pop X.here hx rfl (hb hby hd) rfl hc hr) k
theorem o_one {i : Nat} {v : Value} {sl : Slot} (hs : L[i]? = some sl) (h1 : sl = .unset ∨ ∃ z, sl = .val (.int z)) (hv : v.category = 1) : storeLocals L i v = some (L.setIfInBounds i (.val v)) :=
  XS.store1 hs (h1.imp id fun ⟨z, q⟩ => ⟨.int z, q, rfl⟩) hv
theorem o_len {vs : List Int32} : (vs.map Value.int).length.toInt32 = Int32.ofNat vs.length := by rw [List.length_map]
theorem o_get {vs : List Int32} {i : Nat} (h : i < vs.length) : (vs.map Value.int)[i]? = some (.int (vs[i]'h)) := by simp [h]
theorem o_ofNat {n : Nat} (h : n < 2147483648) : (Int32.ofNat n).toInt = n := Int32.toInt_ofNat_of_lt (by omega)
theorem o_lenJ {vs : List Int64} : (vs.map Value.long).length.toInt32 = Int32.ofNat vs.length := by rw [List.length_map]
theorem o_getJ {vs : List Int64} {i : Nat} (h : i < vs.length) : (vs.map Value.long)[i]? = some (.long (vs[i]'h)) := by simp [h]
theorem o_succ {n : Nat} : Int32.ofNat n + 1 = Int32.ofNat (n + 1) := (Int32.ofNat_add n 1).symm
theorem o_bt {A : Prop} [Decidable A] {b : Int32} (e : b = if A then (1 : Int32) else 0) (q : ¬ b = 0) : A := by
  by_cases a : A
  · exact a
  · rw [if_neg a] at e; exact absurd e q
theorem o_bf {A : Prop} [Decidable A] {b : Int32} (e : b = if A then (1 : Int32) else 0) (q : b = 0) : ¬ A := by
  intro a
  exact absurd ((e.trans (if_pos a)).symm.trans q) (by decide)
theorem o_goto (H : oH p l e R s m args below meth c bc ml y rt Z n0 T h cells slots b I) {o : Int} (hd : decode bc pc = .ok (.goto o, 3)) (ho : 0 ≤ (pc : Int) + o) (hp : ((pc : Int) + o).toNat = pt) (k : oG p e below s n0 kc ks J Q (T.setTop (mkF m pt L S))) : oG p e below s n0 kc ks J Q (T.setTop (mkF m pc L S)) := by
  obtain ⟨vm0, k0, locs, X, eT, N, hx, hby, hml, hZ, hown, hnm, hret, hlk, hn, hS, hk, hB, hI⟩ := H
  exact oG.go (fun t hr => XS.goto X.here hx rfl rfl (hb hby hd) ho hp hr) k
theorem o_icmp_eq (H : oH p l e R s m args below meth c bc ml y rt Z n0 T h cells slots b I) {o : Int} {x z : Int32} (hd : decode bc pc = .ok (.if_icmp .eq o, 3)) (ho : 0 ≤ (pc : Int) + o) (hp : ((pc : Int) + o).toNat = pt) (hp' : pc + 3 = pc') (kt : x = z → oG p e below s n0 kc ks J Q (T.setTop (mkF m pt L S))) (kf : ¬ x = z → oG p e below s n0 kc ks J Q (T.setTop (mkF m pc' L S))) : oG p e below s n0 kc ks J Q (T.setTop (mkF m pc L (.int z :: .int x :: S))) := by
  by_cases q : x = z
  · have k := kt q
    obtain ⟨vm0, k0, locs, X, eT, N, hx, hby, hml, hZ, hown, hnm, hret, hlk, hn, hS, hk, hB, hI⟩ := H
    exact oG.go (fun t hr => XS.icmpYes X.here hx rfl rfl (hb hby hd) rfl (XT.ii_eq_t q) ho hp hr) k
  · have k := kf q
    obtain ⟨vm0, k0, locs, X, eT, N, hx, hby, hml, hZ, hown, hnm, hret, hlk, hn, hS, hk, hB, hI⟩ := H
    subst hp'
    exact oG.go (fun t hr => XS.icmpNo X.here hx rfl (hb hby hd) rfl (XT.ii_eq_f q) hr) k
theorem o_if_eq (H : oH p l e R s m args below meth c bc ml y rt Z n0 T h cells slots b I) {o : Int} {x : Int32} (hd : decode bc pc = .ok (.ifCond .eq o, 3)) (ho : 0 ≤ (pc : Int) + o) (hp : ((pc : Int) + o).toNat = pt) (hp' : pc + 3 = pc') (kt : x = 0 → oG p e below s n0 kc ks J Q (T.setTop (mkF m pt L S))) (kf : ¬ x = 0 → oG p e below s n0 kc ks J Q (T.setTop (mkF m pc' L S))) : oG p e below s n0 kc ks J Q (T.setTop (mkF m pc L (.int x :: S))) := by
  by_cases q : x = 0
  · have k := kt q
    obtain ⟨vm0, k0, locs, X, eT, N, hx, hby, hml, hZ, hown, hnm, hret, hlk, hn, hS, hk, hB, hI⟩ := H
    exact oG.go (fun t hr => XS.ifYes X.here hx rfl rfl (hb hby hd) rfl (XT.i0_eq_t q) ho hp hr) k
  · have k := kf q
    obtain ⟨vm0, k0, locs, X, eT, N, hx, hby, hml, hZ, hown, hnm, hret, hlk, hn, hS, hk, hB, hI⟩ := H
    subst hp'
    exact oG.go (fun t hr => XS.ifNo X.here hx rfl (hb hby hd) rfl (XT.i0_eq_f q) hr) k
theorem o_ifl_eq (H : oH p l e R s m args below meth c bc ml y rt Z n0 T h cells slots b I) {o : Int} {x z : Int64} (hd : decode bc pc = .ok (.ifCond .eq o, 3)) (ho : 0 ≤ (pc : Int) + o) (hp : ((pc : Int) + o).toNat = pt) (hp' : pc + 3 = pc') (kt : x = z → oG p e below s n0 kc ks J Q (T.setTop (mkF m pt L S))) (kf : ¬ x = z → oG p e below s n0 kc ks J Q (T.setTop (mkF m pc' L S))) : oG p e below s n0 kc ks J Q (T.setTop (mkF m pc L (.int (XT.cmpL x z) :: S))) := by
  by_cases q : x = z
  · have k := kt q
    obtain ⟨vm0, k0, locs, X, eT, N, hx, hby, hml, hZ, hown, hnm, hret, hlk, hn, hS, hk, hB, hI⟩ := H
    exact oG.go (fun t hr => XS.ifYes X.here hx rfl rfl (hb hby hd) rfl (XT.ll_eq_t q) ho hp hr) k
  · have k := kf q
    obtain ⟨vm0, k0, locs, X, eT, N, hx, hby, hml, hZ, hown, hnm, hret, hlk, hn, hS, hk, hB, hI⟩ := H
    subst hp'
    exact oG.go (fun t hr => XS.ifNo X.here hx rfl (hb hby hd) rfl (XT.ll_eq_f q) hr) k
theorem o_icmp_ne (H : oH p l e R s m args below meth c bc ml y rt Z n0 T h cells slots b I) {o : Int} {x z : Int32} (hd : decode bc pc = .ok (.if_icmp .ne o, 3)) (ho : 0 ≤ (pc : Int) + o) (hp : ((pc : Int) + o).toNat = pt) (hp' : pc + 3 = pc') (kt : ¬ x = z → oG p e below s n0 kc ks J Q (T.setTop (mkF m pt L S))) (kf : x = z → oG p e below s n0 kc ks J Q (T.setTop (mkF m pc' L S))) : oG p e below s n0 kc ks J Q (T.setTop (mkF m pc L (.int z :: .int x :: S))) := by
  by_cases q : ¬ x = z
  · have k := kt q
    obtain ⟨vm0, k0, locs, X, eT, N, hx, hby, hml, hZ, hown, hnm, hret, hlk, hn, hS, hk, hB, hI⟩ := H
    exact oG.go (fun t hr => XS.icmpYes X.here hx rfl rfl (hb hby hd) rfl (XT.ii_ne_t q) ho hp hr) k
  · have k := kf (Classical.not_not.mp q)
    obtain ⟨vm0, k0, locs, X, eT, N, hx, hby, hml, hZ, hown, hnm, hret, hlk, hn, hS, hk, hB, hI⟩ := H
    subst hp'
    exact oG.go (fun t hr => XS.icmpNo X.here hx rfl (hb hby hd) rfl (XT.ii_ne_f (Classical.not_not.mp q)) hr) k
theorem o_if_ne (H : oH p l e R s m args below meth c bc ml y rt Z n0 T h cells slots b I) {o : Int} {x : Int32} (hd : decode bc pc = .ok (.ifCond .ne o, 3)) (ho : 0 ≤ (pc : Int) + o) (hp : ((pc : Int) + o).toNat = pt) (hp' : pc + 3 = pc') (kt : ¬ x = 0 → oG p e below s n0 kc ks J Q (T.setTop (mkF m pt L S))) (kf : x = 0 → oG p e below s n0 kc ks J Q (T.setTop (mkF m pc' L S))) : oG p e below s n0 kc ks J Q (T.setTop (mkF m pc L (.int x :: S))) := by
  by_cases q : ¬ x = 0
  · have k := kt q
    obtain ⟨vm0, k0, locs, X, eT, N, hx, hby, hml, hZ, hown, hnm, hret, hlk, hn, hS, hk, hB, hI⟩ := H
    exact oG.go (fun t hr => XS.ifYes X.here hx rfl rfl (hb hby hd) rfl (XT.i0_ne_t q) ho hp hr) k
  · have k := kf (Classical.not_not.mp q)
    obtain ⟨vm0, k0, locs, X, eT, N, hx, hby, hml, hZ, hown, hnm, hret, hlk, hn, hS, hk, hB, hI⟩ := H
    subst hp'
    exact oG.go (fun t hr => XS.ifNo X.here hx rfl (hb hby hd) rfl (XT.i0_ne_f (Classical.not_not.mp q)) hr) k
theorem o_ifl_ne (H : oH p l e R s m args below meth c bc ml y rt Z n0 T h cells slots b I) {o : Int} {x z : Int64} (hd : decode bc pc = .ok (.ifCond .ne o, 3)) (ho : 0 ≤ (pc : Int) + o) (hp : ((pc : Int) + o).toNat = pt) (hp' : pc + 3 = pc') (kt : ¬ x = z → oG p e below s n0 kc ks J Q (T.setTop (mkF m pt L S))) (kf : x = z → oG p e below s n0 kc ks J Q (T.setTop (mkF m pc' L S))) : oG p e below s n0 kc ks J Q (T.setTop (mkF m pc L (.int (XT.cmpL x z) :: S))) := by
  by_cases q : ¬ x = z
  · have k := kt q
    obtain ⟨vm0, k0, locs, X, eT, N, hx, hby, hml, hZ, hown, hnm, hret, hlk, hn, hS, hk, hB, hI⟩ := H
    exact oG.go (fun t hr => XS.ifYes X.here hx rfl rfl (hb hby hd) rfl (XT.ll_ne_t q) ho hp hr) k
  · have k := kf (Classical.not_not.mp q)
    obtain ⟨vm0, k0, locs, X, eT, N, hx, hby, hml, hZ, hown, hnm, hret, hlk, hn, hS, hk, hB, hI⟩ := H
    subst hp'
    exact oG.go (fun t hr => XS.ifNo X.here hx rfl (hb hby hd) rfl (XT.ll_ne_f (Classical.not_not.mp q)) hr) k
theorem o_icmp_lt (H : oH p l e R s m args below meth c bc ml y rt Z n0 T h cells slots b I) {o : Int} {x z : Int32} (hd : decode bc pc = .ok (.if_icmp .lt o, 3)) (ho : 0 ≤ (pc : Int) + o) (hp : ((pc : Int) + o).toNat = pt) (hp' : pc + 3 = pc') (kt : x < z → oG p e below s n0 kc ks J Q (T.setTop (mkF m pt L S))) (kf : ¬ x < z → oG p e below s n0 kc ks J Q (T.setTop (mkF m pc' L S))) : oG p e below s n0 kc ks J Q (T.setTop (mkF m pc L (.int z :: .int x :: S))) := by
  by_cases q : x < z
  · have k := kt q
    obtain ⟨vm0, k0, locs, X, eT, N, hx, hby, hml, hZ, hown, hnm, hret, hlk, hn, hS, hk, hB, hI⟩ := H
    exact oG.go (fun t hr => XS.icmpYes X.here hx rfl rfl (hb hby hd) rfl (XT.ii_lt_t q) ho hp hr) k
  · have k := kf q
    obtain ⟨vm0, k0, locs, X, eT, N, hx, hby, hml, hZ, hown, hnm, hret, hlk, hn, hS, hk, hB, hI⟩ := H
    subst hp'
    exact oG.go (fun t hr => XS.icmpNo X.here hx rfl (hb hby hd) rfl (XT.ii_lt_f q) hr) k
theorem o_if_lt (H : oH p l e R s m args below meth c bc ml y rt Z n0 T h cells slots b I) {o : Int} {x : Int32} (hd : decode bc pc = .ok (.ifCond .lt o, 3)) (ho : 0 ≤ (pc : Int) + o) (hp : ((pc : Int) + o).toNat = pt) (hp' : pc + 3 = pc') (kt : x < 0 → oG p e below s n0 kc ks J Q (T.setTop (mkF m pt L S))) (kf : ¬ x < 0 → oG p e below s n0 kc ks J Q (T.setTop (mkF m pc' L S))) : oG p e below s n0 kc ks J Q (T.setTop (mkF m pc L (.int x :: S))) := by
  by_cases q : x < 0
  · have k := kt q
    obtain ⟨vm0, k0, locs, X, eT, N, hx, hby, hml, hZ, hown, hnm, hret, hlk, hn, hS, hk, hB, hI⟩ := H
    exact oG.go (fun t hr => XS.ifYes X.here hx rfl rfl (hb hby hd) rfl (XT.i0_lt_t q) ho hp hr) k
  · have k := kf q
    obtain ⟨vm0, k0, locs, X, eT, N, hx, hby, hml, hZ, hown, hnm, hret, hlk, hn, hS, hk, hB, hI⟩ := H
    subst hp'
    exact oG.go (fun t hr => XS.ifNo X.here hx rfl (hb hby hd) rfl (XT.i0_lt_f q) hr) k
theorem o_ifl_lt (H : oH p l e R s m args below meth c bc ml y rt Z n0 T h cells slots b I) {o : Int} {x z : Int64} (hd : decode bc pc = .ok (.ifCond .lt o, 3)) (ho : 0 ≤ (pc : Int) + o) (hp : ((pc : Int) + o).toNat = pt) (hp' : pc + 3 = pc') (kt : x < z → oG p e below s n0 kc ks J Q (T.setTop (mkF m pt L S))) (kf : ¬ x < z → oG p e below s n0 kc ks J Q (T.setTop (mkF m pc' L S))) : oG p e below s n0 kc ks J Q (T.setTop (mkF m pc L (.int (XT.cmpL x z) :: S))) := by
  by_cases q : x < z
  · have k := kt q
    obtain ⟨vm0, k0, locs, X, eT, N, hx, hby, hml, hZ, hown, hnm, hret, hlk, hn, hS, hk, hB, hI⟩ := H
    exact oG.go (fun t hr => XS.ifYes X.here hx rfl rfl (hb hby hd) rfl (XT.ll_lt_t q) ho hp hr) k
  · have k := kf q
    obtain ⟨vm0, k0, locs, X, eT, N, hx, hby, hml, hZ, hown, hnm, hret, hlk, hn, hS, hk, hB, hI⟩ := H
    subst hp'
    exact oG.go (fun t hr => XS.ifNo X.here hx rfl (hb hby hd) rfl (XT.ll_lt_f q) hr) k
theorem o_icmp_ge (H : oH p l e R s m args below meth c bc ml y rt Z n0 T h cells slots b I) {o : Int} {x z : Int32} (hd : decode bc pc = .ok (.if_icmp .ge o, 3)) (ho : 0 ≤ (pc : Int) + o) (hp : ((pc : Int) + o).toNat = pt) (hp' : pc + 3 = pc') (kt : ¬ x < z → oG p e below s n0 kc ks J Q (T.setTop (mkF m pt L S))) (kf : x < z → oG p e below s n0 kc ks J Q (T.setTop (mkF m pc' L S))) : oG p e below s n0 kc ks J Q (T.setTop (mkF m pc L (.int z :: .int x :: S))) := by
  by_cases q : ¬ x < z
  · have k := kt q
    obtain ⟨vm0, k0, locs, X, eT, N, hx, hby, hml, hZ, hown, hnm, hret, hlk, hn, hS, hk, hB, hI⟩ := H
    exact oG.go (fun t hr => XS.icmpYes X.here hx rfl rfl (hb hby hd) rfl (XT.ii_ge_t q) ho hp hr) k
  · have k := kf (Classical.not_not.mp q)
    obtain ⟨vm0, k0, locs, X, eT, N, hx, hby, hml, hZ, hown, hnm, hret, hlk, hn, hS, hk, hB, hI⟩ := H
    subst hp'
    exact oG.go (fun t hr => XS.icmpNo X.here hx rfl (hb hby hd) rfl (XT.ii_ge_f (Classical.not_not.mp q)) hr) k
theorem o_if_ge (H : oH p l e R s m args below meth c bc ml y rt Z n0 T h cells slots b I) {o : Int} {x : Int32} (hd : decode bc pc = .ok (.ifCond .ge o, 3)) (ho : 0 ≤ (pc : Int) + o) (hp : ((pc : Int) + o).toNat = pt) (hp' : pc + 3 = pc') (kt : ¬ x < 0 → oG p e below s n0 kc ks J Q (T.setTop (mkF m pt L S))) (kf : x < 0 → oG p e below s n0 kc ks J Q (T.setTop (mkF m pc' L S))) : oG p e below s n0 kc ks J Q (T.setTop (mkF m pc L (.int x :: S))) := by
  by_cases q : ¬ x < 0
  · have k := kt q
    obtain ⟨vm0, k0, locs, X, eT, N, hx, hby, hml, hZ, hown, hnm, hret, hlk, hn, hS, hk, hB, hI⟩ := H
    exact oG.go (fun t hr => XS.ifYes X.here hx rfl rfl (hb hby hd) rfl (XT.i0_ge_t q) ho hp hr) k
  · have k := kf (Classical.not_not.mp q)
    obtain ⟨vm0, k0, locs, X, eT, N, hx, hby, hml, hZ, hown, hnm, hret, hlk, hn, hS, hk, hB, hI⟩ := H
    subst hp'
    exact oG.go (fun t hr => XS.ifNo X.here hx rfl (hb hby hd) rfl (XT.i0_ge_f (Classical.not_not.mp q)) hr) k
theorem o_ifl_ge (H : oH p l e R s m args below meth c bc ml y rt Z n0 T h cells slots b I) {o : Int} {x z : Int64} (hd : decode bc pc = .ok (.ifCond .ge o, 3)) (ho : 0 ≤ (pc : Int) + o) (hp : ((pc : Int) + o).toNat = pt) (hp' : pc + 3 = pc') (kt : ¬ x < z → oG p e below s n0 kc ks J Q (T.setTop (mkF m pt L S))) (kf : x < z → oG p e below s n0 kc ks J Q (T.setTop (mkF m pc' L S))) : oG p e below s n0 kc ks J Q (T.setTop (mkF m pc L (.int (XT.cmpL x z) :: S))) := by
  by_cases q : ¬ x < z
  · have k := kt q
    obtain ⟨vm0, k0, locs, X, eT, N, hx, hby, hml, hZ, hown, hnm, hret, hlk, hn, hS, hk, hB, hI⟩ := H
    exact oG.go (fun t hr => XS.ifYes X.here hx rfl rfl (hb hby hd) rfl (XT.ll_ge_t q) ho hp hr) k
  · have k := kf (Classical.not_not.mp q)
    obtain ⟨vm0, k0, locs, X, eT, N, hx, hby, hml, hZ, hown, hnm, hret, hlk, hn, hS, hk, hB, hI⟩ := H
    subst hp'
    exact oG.go (fun t hr => XS.ifNo X.here hx rfl (hb hby hd) rfl (XT.ll_ge_f (Classical.not_not.mp q)) hr) k
theorem o_icmp_gt (H : oH p l e R s m args below meth c bc ml y rt Z n0 T h cells slots b I) {o : Int} {x z : Int32} (hd : decode bc pc = .ok (.if_icmp .gt o, 3)) (ho : 0 ≤ (pc : Int) + o) (hp : ((pc : Int) + o).toNat = pt) (hp' : pc + 3 = pc') (kt : z < x → oG p e below s n0 kc ks J Q (T.setTop (mkF m pt L S))) (kf : ¬ z < x → oG p e below s n0 kc ks J Q (T.setTop (mkF m pc' L S))) : oG p e below s n0 kc ks J Q (T.setTop (mkF m pc L (.int z :: .int x :: S))) := by
  by_cases q : z < x
  · have k := kt q
    obtain ⟨vm0, k0, locs, X, eT, N, hx, hby, hml, hZ, hown, hnm, hret, hlk, hn, hS, hk, hB, hI⟩ := H
    exact oG.go (fun t hr => XS.icmpYes X.here hx rfl rfl (hb hby hd) rfl (XT.ii_gt_t q) ho hp hr) k
  · have k := kf q
    obtain ⟨vm0, k0, locs, X, eT, N, hx, hby, hml, hZ, hown, hnm, hret, hlk, hn, hS, hk, hB, hI⟩ := H
    subst hp'
    exact oG.go (fun t hr => XS.icmpNo X.here hx rfl (hb hby hd) rfl (XT.ii_gt_f q) hr) k
theorem o_if_gt (H : oH p l e R s m args below meth c bc ml y rt Z n0 T h cells slots b I) {o : Int} {x : Int32} (hd : decode bc pc = .ok (.ifCond .gt o, 3)) (ho : 0 ≤ (pc : Int) + o) (hp : ((pc : Int) + o).toNat = pt) (hp' : pc + 3 = pc') (kt : 0 < x → oG p e below s n0 kc ks J Q (T.setTop (mkF m pt L S))) (kf : ¬ 0 < x → oG p e below s n0 kc ks J Q (T.setTop (mkF m pc' L S))) : oG p e below s n0 kc ks J Q (T.setTop (mkF m pc L (.int x :: S))) := by
  by_cases q : 0 < x
  · have k := kt q
    obtain ⟨vm0, k0, locs, X, eT, N, hx, hby, hml, hZ, hown, hnm, hret, hlk, hn, hS, hk, hB, hI⟩ := H
    exact oG.go (fun t hr => XS.ifYes X.here hx rfl rfl (hb hby hd) rfl (XT.i0_gt_t q) ho hp hr) k
  · have k := kf q
    obtain ⟨vm0, k0, locs, X, eT, N, hx, hby, hml, hZ, hown, hnm, hret, hlk, hn, hS, hk, hB, hI⟩ := H
    subst hp'
    exact oG.go (fun t hr => XS.ifNo X.here hx rfl (hb hby hd) rfl (XT.i0_gt_f q) hr) k
theorem o_ifl_gt (H : oH p l e R s m args below meth c bc ml y rt Z n0 T h cells slots b I) {o : Int} {x z : Int64} (hd : decode bc pc = .ok (.ifCond .gt o, 3)) (ho : 0 ≤ (pc : Int) + o) (hp : ((pc : Int) + o).toNat = pt) (hp' : pc + 3 = pc') (kt : z < x → oG p e below s n0 kc ks J Q (T.setTop (mkF m pt L S))) (kf : ¬ z < x → oG p e below s n0 kc ks J Q (T.setTop (mkF m pc' L S))) : oG p e below s n0 kc ks J Q (T.setTop (mkF m pc L (.int (XT.cmpL x z) :: S))) := by
  by_cases q : z < x
  · have k := kt q
    obtain ⟨vm0, k0, locs, X, eT, N, hx, hby, hml, hZ, hown, hnm, hret, hlk, hn, hS, hk, hB, hI⟩ := H
    exact oG.go (fun t hr => XS.ifYes X.here hx rfl rfl (hb hby hd) rfl (XT.ll_gt_t q) ho hp hr) k
  · have k := kf q
    obtain ⟨vm0, k0, locs, X, eT, N, hx, hby, hml, hZ, hown, hnm, hret, hlk, hn, hS, hk, hB, hI⟩ := H
    subst hp'
    exact oG.go (fun t hr => XS.ifNo X.here hx rfl (hb hby hd) rfl (XT.ll_gt_f q) hr) k
theorem o_icmp_le (H : oH p l e R s m args below meth c bc ml y rt Z n0 T h cells slots b I) {o : Int} {x z : Int32} (hd : decode bc pc = .ok (.if_icmp .le o, 3)) (ho : 0 ≤ (pc : Int) + o) (hp : ((pc : Int) + o).toNat = pt) (hp' : pc + 3 = pc') (kt : ¬ z < x → oG p e below s n0 kc ks J Q (T.setTop (mkF m pt L S))) (kf : z < x → oG p e below s n0 kc ks J Q (T.setTop (mkF m pc' L S))) : oG p e below s n0 kc ks J Q (T.setTop (mkF m pc L (.int z :: .int x :: S))) := by
  by_cases q : ¬ z < x
  · have k := kt q
    obtain ⟨vm0, k0, locs, X, eT, N, hx, hby, hml, hZ, hown, hnm, hret, hlk, hn, hS, hk, hB, hI⟩ := H
    exact oG.go (fun t hr => XS.icmpYes X.here hx rfl rfl (hb hby hd) rfl (XT.ii_le_t q) ho hp hr) k
  · have k := kf (Classical.not_not.mp q)
    obtain ⟨vm0, k0, locs, X, eT, N, hx, hby, hml, hZ, hown, hnm, hret, hlk, hn, hS, hk, hB, hI⟩ := H
    subst hp'
    exact oG.go (fun t hr => XS.icmpNo X.here hx rfl (hb hby hd) rfl (XT.ii_le_f (Classical.not_not.mp q)) hr) k
theorem o_if_le (H : oH p l e R s m args below meth c bc ml y rt Z n0 T h cells slots b I) {o : Int} {x : Int32} (hd : decode bc pc = .ok (.ifCond .le o, 3)) (ho : 0 ≤ (pc : Int) + o) (hp : ((pc : Int) + o).toNat = pt) (hp' : pc + 3 = pc') (kt : ¬ 0 < x → oG p e below s n0 kc ks J Q (T.setTop (mkF m pt L S))) (kf : 0 < x → oG p e below s n0 kc ks J Q (T.setTop (mkF m pc' L S))) : oG p e below s n0 kc ks J Q (T.setTop (mkF m pc L (.int x :: S))) := by
  by_cases q : ¬ 0 < x
  · have k := kt q
    obtain ⟨vm0, k0, locs, X, eT, N, hx, hby, hml, hZ, hown, hnm, hret, hlk, hn, hS, hk, hB, hI⟩ := H
    exact oG.go (fun t hr => XS.ifYes X.here hx rfl rfl (hb hby hd) rfl (XT.i0_le_t q) ho hp hr) k
  · have k := kf (Classical.not_not.mp q)
    obtain ⟨vm0, k0, locs, X, eT, N, hx, hby, hml, hZ, hown, hnm, hret, hlk, hn, hS, hk, hB, hI⟩ := H
    subst hp'
    exact oG.go (fun t hr => XS.ifNo X.here hx rfl (hb hby hd) rfl (XT.i0_le_f (Classical.not_not.mp q)) hr) k
theorem o_ifl_le (H : oH p l e R s m args below meth c bc ml y rt Z n0 T h cells slots b I) {o : Int} {x z : Int64} (hd : decode bc pc = .ok (.ifCond .le o, 3)) (ho : 0 ≤ (pc : Int) + o) (hp : ((pc : Int) + o).toNat = pt) (hp' : pc + 3 = pc') (kt : ¬ z < x → oG p e below s n0 kc ks J Q (T.setTop (mkF m pt L S))) (kf : z < x → oG p e below s n0 kc ks J Q (T.setTop (mkF m pc' L S))) : oG p e below s n0 kc ks J Q (T.setTop (mkF m pc L (.int (XT.cmpL x z) :: S))) := by
  by_cases q : ¬ z < x
  · have k := kt q
    obtain ⟨vm0, k0, locs, X, eT, N, hx, hby, hml, hZ, hown, hnm, hret, hlk, hn, hS, hk, hB, hI⟩ := H
    exact oG.go (fun t hr => XS.ifYes X.here hx rfl rfl (hb hby hd) rfl (XT.ll_le_t q) ho hp hr) k
  · have k := kf (Classical.not_not.mp q)
    obtain ⟨vm0, k0, locs, X, eT, N, hx, hby, hml, hZ, hown, hnm, hret, hlk, hn, hS, hk, hB, hI⟩ := H
    subst hp'
    exact oG.go (fun t hr => XS.ifNo X.here hx rfl (hb hby hd) rfl (XT.ll_le_f (Classical.not_not.mp q)) hr) k
theorem o_icmp_t (H : oH p l e R s m args below meth c bc ml y rt Z n0 T h cells slots b I) {o : Int} {cd : ClassFile.Cond} {x z : Int32} (hd : decode bc pc = .ok (.if_icmp cd o, 3)) (hc : if_icmp.holds cd x z = true) (ho : 0 ≤ (pc : Int) + o) (hp : ((pc : Int) + o).toNat = pt) (k : oG p e below s n0 kc ks J Q (T.setTop (mkF m pt L S))) : oG p e below s n0 kc ks J Q (T.setTop (mkF m pc L (.int z :: .int x :: S))) := by
  obtain ⟨vm0, k0, locs, X, eT, N, hx, hby, hml, hZ, hown, hnm, hret, hlk, hn, hS, hk, hB, hI⟩ := H
  exact oG.go (fun t hr => XS.icmpYes X.here hx rfl rfl (hb hby hd) rfl hc ho hp hr) k
theorem o_icmp_f (H : oH p l e R s m args below meth c bc ml y rt Z n0 T h cells slots b I) {o : Int} {cd : ClassFile.Cond} {x z : Int32} (hd : decode bc pc = .ok (.if_icmp cd o, 3)) (hc : if_icmp.holds cd x z = false) (hp : pc + 3 = pc') (k : oG p e below s n0 kc ks J Q (T.setTop (mkF m pc' L S))) : oG p e below s n0 kc ks J Q (T.setTop (mkF m pc L (.int z :: .int x :: S))) := by
  obtain ⟨vm0, k0, locs, X, eT, N, hx, hby, hml, hZ, hown, hnm, hret, hlk, hn, hS, hk, hB, hI⟩ := H
  subst hp
  exact oG.go (fun t hr => XS.icmpNo X.here hx rfl (hb hby hd) rfl hc hr) k
theorem o_if_t (H : oH p l e R s m args below meth c bc ml y rt Z n0 T h cells slots b I) {o : Int} {cd : ClassFile.Cond} {x : Int32} (hd : decode bc pc = .ok (.ifCond cd o, 3)) (hc : ifCond.holds cd x = true) (ho : 0 ≤ (pc : Int) + o) (hp : ((pc : Int) + o).toNat = pt) (k : oG p e below s n0 kc ks J Q (T.setTop (mkF m pt L S))) : oG p e below s n0 kc ks J Q (T.setTop (mkF m pc L (.int x :: S))) := by
  obtain ⟨vm0, k0, locs, X, eT, N, hx, hby, hml, hZ, hown, hnm, hret, hlk, hn, hS, hk, hB, hI⟩ := H
  exact oG.go (fun t hr => XS.ifYes X.here hx rfl rfl (hb hby hd) rfl hc ho hp hr) k
theorem o_if_f (H : oH p l e R s m args below meth c bc ml y rt Z n0 T h cells slots b I) {o : Int} {cd : ClassFile.Cond} {x : Int32} (hd : decode bc pc = .ok (.ifCond cd o, 3)) (hc : ifCond.holds cd x = false) (hp : pc + 3 = pc') (k : oG p e below s n0 kc ks J Q (T.setTop (mkF m pc' L S))) : oG p e below s n0 kc ks J Q (T.setTop (mkF m pc L (.int x :: S))) := by
  obtain ⟨vm0, k0, locs, X, eT, N, hx, hby, hml, hZ, hown, hnm, hret, hlk, hn, hS, hk, hB, hI⟩ := H
  subst hp
  exact oG.go (fun t hr => XS.ifNo X.here hx rfl (hb hby hd) rfl hc hr) k
theorem o_ifnull_t (H : oH p l e R s m args below meth c bc ml y rt Z n0 T h cells slots b I) {o : Int} (hd : decode bc pc = .ok (.ifnull o, 3)) (ho : 0 ≤ (pc : Int) + o) (hp : ((pc : Int) + o).toNat = pt) (k : oG p e below s n0 kc ks J Q (T.setTop (mkF m pt L S))) : oG p e below s n0 kc ks J Q (T.setTop (mkF m pc L (.null :: S))) := by
  obtain ⟨vm0, k0, locs, X, eT, N, hx, hby, hml, hZ, hown, hnm, hret, hlk, hn, hS, hk, hB, hI⟩ := H
  exact oG.go (fun t hr => XS.ifnullYes X.here hx rfl rfl (hb hby hd) rfl ho hp hr) k
theorem o_ifnull_f (H : oH p l e R s m args below meth c bc ml y rt Z n0 T h cells slots b I) {o : Int} {a : Addr} (hd : decode bc pc = .ok (.ifnull o, 3)) (hp : pc + 3 = pc') (k : oG p e below s n0 kc ks J Q (T.setTop (mkF m pc' L S))) : oG p e below s n0 kc ks J Q (T.setTop (mkF m pc L (.ref a :: S))) := by
  obtain ⟨vm0, k0, locs, X, eT, N, hx, hby, hml, hZ, hown, hnm, hret, hlk, hn, hS, hk, hB, hI⟩ := H
  subst hp
  exact oG.go (fun t hr => XS.ifnullNo X.here hx rfl (hb hby hd) rfl hr) k
theorem o_ifnonnull_t (H : oH p l e R s m args below meth c bc ml y rt Z n0 T h cells slots b I) {o : Int} {a : Addr} (hd : decode bc pc = .ok (.ifnonnull o, 3)) (ho : 0 ≤ (pc : Int) + o) (hp : ((pc : Int) + o).toNat = pt) (k : oG p e below s n0 kc ks J Q (T.setTop (mkF m pt L S))) : oG p e below s n0 kc ks J Q (T.setTop (mkF m pc L (.ref a :: S))) := by
  obtain ⟨vm0, k0, locs, X, eT, N, hx, hby, hml, hZ, hown, hnm, hret, hlk, hn, hS, hk, hB, hI⟩ := H
  exact oG.go (fun t hr => XT.ifnonnullYes X.here hx rfl rfl (hb hby hd) rfl ho hp hr) k
theorem o_ifnonnull_f (H : oH p l e R s m args below meth c bc ml y rt Z n0 T h cells slots b I) {o : Int} (hd : decode bc pc = .ok (.ifnonnull o, 3)) (hp : pc + 3 = pc') (k : oG p e below s n0 kc ks J Q (T.setTop (mkF m pc' L S))) : oG p e below s n0 kc ks J Q (T.setTop (mkF m pc L (.null :: S))) := by
  obtain ⟨vm0, k0, locs, X, eT, N, hx, hby, hml, hZ, hown, hnm, hret, hlk, hn, hS, hk, hB, hI⟩ := H
  subst hp
  exact oG.go (fun t hr => XT.ifnonnullNo X.here hx rfl (hb hby hd) rfl hr) k
theorem o_acmp_t (H : oH p l e R s m args below meth c bc ml y rt Z n0 T h cells slots b I) {o : Int} {cd : ClassFile.ACond} {u w : Value} (hd : decode bc pc = .ok (.if_acmp cd o, 3)) (hu : u.isRef = true) (hw : w.isRef = true) (hc : XT.acmp cd u w = true) (ho : 0 ≤ (pc : Int) + o) (hp : ((pc : Int) + o).toNat = pt) (k : oG p e below s n0 kc ks J Q (T.setTop (mkF m pt L S))) : oG p e below s n0 kc ks J Q (T.setTop (mkF m pc L (w :: u :: S))) := by
  obtain ⟨vm0, k0, locs, X, eT, N, hx, hby, hml, hZ, hown, hnm, hret, hlk, hn, hS, hk, hB, hI⟩ := H
  exact oG.go (fun t hr => XT.acmpYes X.here hx rfl rfl (hb hby hd) rfl hu hw hc ho hp hr) k
theorem o_acmp_f (H : oH p l e R s m args below meth c bc ml y rt Z n0 T h cells slots b I) {o : Int} {cd : ClassFile.ACond} {u w : Value} (hd : decode bc pc = .ok (.if_acmp cd o, 3)) (hu : u.isRef = true) (hw : w.isRef = true) (hc : XT.acmp cd u w = false) (hp : pc + 3 = pc') (k : oG p e below s n0 kc ks J Q (T.setTop (mkF m pc' L S))) : oG p e below s n0 kc ks J Q (T.setTop (mkF m pc L (w :: u :: S))) := by
  obtain ⟨vm0, k0, locs, X, eT, N, hx, hby, hml, hZ, hown, hnm, hret, hlk, hn, hS, hk, hB, hI⟩ := H
  subst hp
  exact oG.go (fun t hr => XT.acmpNo X.here hx rfl (hb hby hd) rfl hu hw hc hr) k
theorem o_ldcI (H : oH p l e R s m args below meth c bc ml y rt Z n0 T h cells slots b I) {i : Nat} (v : Int32) (w : (Jvm.Cond.constant y.cls i v).before a0 Z = true) (hd : decode bc pc = .ok (.ldc i, 2)) (hp : pc + 2 = pc') (k : oG p e below s n0 kc ks J Q (T.setTop (mkF m pc' L (.int v :: S)))) : oG p e below s n0 kc ks J Q (T.setTop (mkF m pc L S)) := by
  obtain ⟨vm0, k0, locs, X, eT, N, hx, hby, hml, hZ, hown, hnm, hret, hlk, hn, hS, hk, hB, hI⟩ := H
  subst hp
  exact oG.go (X.ldcInt hx hown (mvT hZ w) (g := mkF m pc L S) rfl (hb hby hd)) k
theorem o_ldcJ (H : oH p l e R s m args below meth c bc ml y rt Z n0 T h cells slots b I) {i : Nat} (v : Int64) (w : (Jvm.Cond.constantLong y.cls i v).before a0 Z = true) (hd : decode bc pc = .ok (.ldc2_w i, 3)) (hp : pc + 3 = pc') (k : oG p e below s n0 kc ks J Q (T.setTop (mkF m pc' L (.long v :: S)))) : oG p e below s n0 kc ks J Q (T.setTop (mkF m pc L S)) := by
  obtain ⟨vm0, k0, locs, X, eT, N, hx, hby, hml, hZ, hown, hnm, hret, hlk, hn, hS, hk, hB, hI⟩ := H
  subst hp
  exact oG.go (X.ldc2Long hx hown (mvT hZ w) (g := mkF m pc L S) rfl (hb hby hd)) k
theorem o_ireturn (H : oH p l e R s m args below meth c bc ml y rt Z n0 T h cells slots b I) {z : Int32} (hrt : rt = some .int) (hd : decode bc pc = .ok (.ireturn, 1)) (hst : oSt I) (hIJ : ∀ vm, I vm → J vm) (hkc : cells ≤ kc) (hks : slots ≤ ks) (q : Q (some (.int z)) h) : oG p e below s n0 kc ks J Q (T.setTop (mkF m pc L (.int z :: S))) := by
  obtain ⟨vm0, k0, locs, X, eT, N, hx, hby, hml, hZ, hown, hnm, hret, hlk, hn, hS, hk, hB, hI⟩ := H
  obtain ⟨fs, hr, hrun, hended, hE⟩ := X.leaveW hS (by rw [eT]; exact hk) (v := (some (.int z))) (fun hh => by first | rfl | (rw [hret, hrt] at hh; cases hh)) hlk
  refine ⟨_, _, retI X hx (hret.trans hrt) (hb hby hd) hr, hrun, hended, _, _, rfl, ⟨?_, N, hIJ _ (hst _ _ X.warmed hI)⟩, hE.1, hE.2.1, hE.2.2.1, hE.2.2.2.mono hkc hks⟩
  show Q _ T.heap
  rw [eT]; exact q
theorem o_nreturn (H : oH p l e R s m args below meth c bc ml y rt Z n0 T h cells slots b I) {z : Int32} (t : FieldType) (hrt : rt = some t) (ht : t = .boolean ∨ t = .byte ∨ t = .char ∨ t = .short) (hd : decode bc pc = .ok (.ireturn, 1)) (hst : oSt I) (hIJ : ∀ vm, I vm → J vm) (hkc : cells ≤ kc) (hks : slots ≤ ks) (q : Q (some (.int (nar t z))) h) : oG p e below s n0 kc ks J Q (T.setTop (mkF m pc L (.int z :: S))) := by
  obtain ⟨vm0, k0, locs, X, eT, N, hx, hby, hml, hZ, hown, hnm, hret, hlk, hn, hS, hk, hB, hI⟩ := H
  obtain ⟨fs, hr, hrun, hended, hE⟩ := X.leaveW hS (by rw [eT]; exact hk) (v := (some (.int (nar t z)))) (fun hh => by first | rfl | (rw [hret, hrt] at hh; cases hh)) hlk
  refine ⟨_, _, retN X hx (hret.trans hrt) ht (hb hby hd) hr, hrun, hended, _, _, rfl, ⟨?_, N, hIJ _ (hst _ _ X.warmed hI)⟩, hE.1, hE.2.1, hE.2.2.1, hE.2.2.2.mono hkc hks⟩
  show Q _ T.heap
  rw [eT]; exact q
theorem o_lreturn (H : oH p l e R s m args below meth c bc ml y rt Z n0 T h cells slots b I) {z : Int64} (hrt : rt = some .long) (hd : decode bc pc = .ok (.lreturn, 1)) (hst : oSt I) (hIJ : ∀ vm, I vm → J vm) (hkc : cells ≤ kc) (hks : slots ≤ ks) (q : Q (some (.long z)) h) : oG p e below s n0 kc ks J Q (T.setTop (mkF m pc L (.long z :: S))) := by
  obtain ⟨vm0, k0, locs, X, eT, N, hx, hby, hml, hZ, hown, hnm, hret, hlk, hn, hS, hk, hB, hI⟩ := H
  obtain ⟨fs, hr, hrun, hended, hE⟩ := X.leaveW hS (by rw [eT]; exact hk) (v := (some (.long z))) (fun hh => by first | rfl | (rw [hret, hrt] at hh; cases hh)) hlk
  refine ⟨_, _, retOut X hx (w := .long z) (i := .lreturn) (hret.trans hrt) rfl (Or.inr (Or.inl ⟨rfl, rfl, z, rfl⟩)) (hb hby hd) hr, hrun, hended, _, _, rfl, ⟨?_, N, hIJ _ (hst _ _ X.warmed hI)⟩, hE.1, hE.2.1, hE.2.2.1, hE.2.2.2.mono hkc hks⟩
  show Q _ T.heap
  rw [eT]; exact q
theorem o_areturn (H : oH p l e R s m args below meth c bc ml y rt Z n0 T h cells slots b I) {v : Value} {t : FieldType} (hrt : rt = some t) (ht : t.isReference = true) (hv : v.isRef = true) (hna : narrow t v = v) (hd : decode bc pc = .ok (.areturn, 1)) (hst : oSt I) (hIJ : ∀ vm, I vm → J vm) (hkc : cells ≤ kc) (hks : slots ≤ ks) (q : Q (some v) h) : oG p e below s n0 kc ks J Q (T.setTop (mkF m pc L (v :: S))) := by
  obtain ⟨vm0, k0, locs, X, eT, N, hx, hby, hml, hZ, hown, hnm, hret, hlk, hn, hS, hk, hB, hI⟩ := H
  obtain ⟨fs, hr, hrun, hended, hE⟩ := X.leaveW hS (by rw [eT]; exact hk) (v := (some v)) (fun hh => by first | rfl | (rw [hret, hrt] at hh; cases hh)) hlk
  refine ⟨_, _, retOut X hx (w := v) (i := .areturn) (hret.trans hrt) hna (Or.inr (Or.inr (Or.inr (Or.inr ⟨rfl, ht, hv⟩)))) (hb hby hd) hr, hrun, hended, _, _, rfl, ⟨?_, N, hIJ _ (hst _ _ X.warmed hI)⟩, hE.1, hE.2.1, hE.2.2.1, hE.2.2.2.mono hkc hks⟩
  show Q _ T.heap
  rw [eT]; exact q
theorem o_return (H : oH p l e R s m args below meth c bc ml y rt Z n0 T h cells slots b I)  (hrt : rt = none) (hd : decode bc pc = .ok (.return_, 1)) (hst : oSt I) (hIJ : ∀ vm, I vm → J vm) (hkc : cells ≤ kc) (hks : slots ≤ ks) (q : Q none h) : oG p e below s n0 kc ks J Q (T.setTop (mkF m pc L [])) := by
  obtain ⟨vm0, k0, locs, X, eT, N, hx, hby, hml, hZ, hown, hnm, hret, hlk, hn, hS, hk, hB, hI⟩ := H
  obtain ⟨fs, hr, hrun, hended, hE⟩ := X.leaveW hS (by rw [eT]; exact hk) (v := none) (fun hh => by first | rfl | (rw [hret, hrt] at hh; cases hh)) hlk
  refine ⟨_, _, X.returnOut hx (hret.trans hrt) (hb hby hd) hr, hrun, hended, _, _, rfl, ⟨?_, N, hIJ _ (hst _ _ X.warmed hI)⟩, hE.1, hE.2.1, hE.2.2.1, hE.2.2.2.mono hkc hks⟩
  show Q _ T.heap
  rw [eT]; exact q
theorem o_new (H : oH p l e R s m args below meth c bc ml y rt Z n0 T h cells slots b I) {i nn : Nat} {C : String} (w : (Jvm.Cond.classLink y.cls i C).before a0 Z = true) (wi : (Jvm.Cond.instantiable C nn).before a0 Z = true) (wz : (Jvm.Cond.initialized C).before a0 Z = true) (hd : decode bc pc = .ok (.new i, 3)) (hp : pc + 3 = pc') (hc : cells + 1 ≤ R.cells) (hl : slots + nn ≤ R.slots)
    (k : ∀ (T' : State) (h' : Heap) (a : Addr), a = h.size → oH p l e R s m args below meth c bc ml y rt Z n0 T' h' (cells + 1) (slots + nn) b I → Ext h h' → Exa Z h' a C → (∀ {O nm d : String} {ty : FieldType}, Laid Z a0 C O nm d → parseFieldDescriptor d = some ty → Fld Z h' a O nm d (defaultValue ty)) → oG p e below s n0 kc ks J Q (T'.setTop (mkF m pc' L (.ref a :: S)))) : oG p e below s n0 kc ks J Q (T.setTop (mkF m pc L S)) := by
  obtain ⟨vm0, k0, locs, X, eT, N, hx, hby, hml, hZ, hown, hnm, hret, hlk, hn, hS, hk, hB, hI⟩ := H
  subst hp
  obtain ⟨T', h', X', e', E, A, D, -, st⟩ := newO X hx hZ hown w wi wz eT (g := mkF m pc L S) rfl (hb hby hd) hc hl
  exact oG.go st (k T' h' _ rfl ⟨vm0, k0, locs, X', e', N, hx, hby, hml, hZ, hown, hnm, hret, hlk, hn, hS, Nat.le_trans hk E.1, hB, hI⟩ E A (fun La ht => D La ht))
theorem o_initO (H : oH p l e R s m args below meth c bc ml y rt Z n0 T h cells slots b I) {i : Nat} {a : Addr} (w1 : (Jvm.Cond.methodLink y.cls i Lib.objectInit).before a0 Z = true) (w2 : (Jvm.Cond.instanceMethod Lib.objectInit).before a0 Z = true) (w3 : (Jvm.Cond.code Lib.objectInit ⟨#[0xb1]⟩ 1 none).before a0 Z = true) (hd : decode bc pc = .ok (.invokespecial i, 3)) (hp : pc + 3 = pc') (hsz : L.size = ml) (hf : 1 ≤ R.frames) (hlo : (S.map fun v => v.category).sum + 12 ≤ R.locals)
    (k : ∀ (T' : State), oH p l e R s m args below meth c bc ml y rt Z n0 T' h cells slots b I → oG p e below s n0 kc ks J Q (T'.setTop (mkF m pc' L S))) : oG p e below s n0 kc ks J Q (T.setTop (mkF m pc L (.ref a :: S))) := by
  obtain ⟨vm0, k0, locs, X, eT, N, hx, hby, hml, hZ, hown, hnm, hret, hlk, hn, hS, hk, hB, hI⟩ := H
  subst hp
  obtain ⟨T', X', e', st⟩ := initO X hx hZ hown w1 w2 w3 eT (g := mkF m pc L (.ref a :: S)) rfl (by rw [hml]; exact hsz) rfl (hb hby hd) hf (W := (S.map fun v => v.category).sum) (by show 2 * 0 + _ ≤ _; omega) hlo
  exact oG.go st (k T' ⟨vm0, k0, locs, X', e', N, hx, hby, hml, hZ, hown, hnm, hret, hlk, hn, hS, hk, hB, hI⟩)
theorem o_getF (H : oH p l e R s m args below meth c bc ml y rt Z n0 T h cells slots b I) {i : Nat} {a : Addr} {C f d host : String} {v : Value} (w : (Jvm.Cond.fieldLink y.cls i C f d).before a0 Z = true ∨ (Jvm.Cond.fieldLinkNest y.cls i C f d host).before a0 Z = true) (F : Fld Z h a C f d v) (hd : decode bc pc = .ok (.getfield i, 3)) (hp : pc + 3 = pc')
    (k : ∀ (T' : State), oH p l e R s m args below meth c bc ml y rt Z n0 T' h cells slots b I → oG p e below s n0 kc ks J Q (T'.setTop (mkF m pc' L (v :: S)))) : oG p e below s n0 kc ks J Q (T.setTop (mkF m pc L (.ref a :: S))) := by
  obtain ⟨vm0, k0, locs, X, eT, N, hx, hby, hml, hZ, hown, hnm, hret, hlk, hn, hS, hk, hB, hI⟩ := H
  subst hp
  obtain ⟨T', X', e', st⟩ := getF X hx hZ hown (host := host) w Via.refl eT F (g := mkF m pc L (.ref a :: S)) rfl rfl (hb hby hd)
  exact oG.go st (k T' ⟨vm0, k0, locs, X', e', N, hx, hby, hml, hZ, hown, hnm, hret, hlk, hn, hS, hk, hB, hI⟩)
theorem o_putF (H : oH p l e R s m args below meth c bc ml y rt Z n0 T h cells slots b I) {i kk : Nat} {a : Addr} {C K f d host : String} {v old : Value} {ty : FieldType} (w : (Jvm.Cond.fieldLink y.cls i C f d).before a0 Z = true ∨ (Jvm.Cond.fieldLinkNest y.cls i C f d host).before a0 Z = true) (F : Fld Z h a C f d old) (E : Exa Z h a K) (wl : (Jvm.Cond.lays K C f d).before a0 Z = true ∨ ((Jvm.Cond.laysFinal K C f d).before a0 Z = true ∧ y.cls = C ∧ y.name = "<init>")) (wi : (Jvm.Cond.instantiable K kk).before a0 Z = true) (hty : parseFieldDescriptor d = some ty) (hna : narrow ty v = v) (hft : fits ty v = true) (ha : n0 ≤ a) (hd : decode bc pc = .ok (.putfield i, 3)) (hp : pc + 3 = pc')
    (k : ∀ (T' : State) (h' : Heap), oH p l e R s m args below meth c bc ml y rt Z n0 T' h' cells slots false I → Wr h h' a (Jvm.RoadKit.slotOf Z C f d) v → oG p e below s n0 kc ks J Q (T'.setTop (mkF m pc' L S))) : oG p e below s n0 kc ks J Q (T.setTop (mkF m pc L (v :: .ref a :: S))) := by
  obtain ⟨vm0, k0, locs, X, eT, N, hx, hby, hml, hZ, hown, hnm, hret, hlk, hn, hS, hk, hB, hI⟩ := H
  subst hp
  obtain ⟨T', h', X', e', W, st⟩ := putF X hx hZ hown (host := host) w Via.refl eT F E (wl.imp id fun q => ⟨q.1, q.2.1, hnm.trans q.2.2⟩) wi hty hna hft (g := mkF m pc L (v :: .ref a :: S)) rfl rfl (hb hby hd)
  exact oG.go st (k T' h' ⟨vm0, k0, _, X', e', Fr.snoc X' N ha, hx, hby, hml, hZ, hown, hnm, hret, hlk, hn, hS, (by rw [W.size]; exact hk), (fun q => (nomatch q)), hI⟩ W)
theorem o_putFN (H : oH p l e R s m args below meth c bc ml y rt Z n0 T h cells slots b I) {i kk : Nat} {a : Addr} {C K f d : String} {v v' old : Value} {ty : FieldType} (w : (Jvm.Cond.fieldLink y.cls i C f d).before a0 Z = true) (F : Fld Z h a C f d old) (E : Exa Z h a K) (wl : (Jvm.Cond.lays K C f d).before a0 Z = true ∨ ((Jvm.Cond.laysFinal K C f d).before a0 Z = true ∧ y.cls = C ∧ y.name = "<init>")) (wi : (Jvm.Cond.instantiable K kk).before a0 Z = true) (hty : parseFieldDescriptor d = some ty) (hna : narrow ty v = v') (hft : fits ty v' = true) (ha : n0 ≤ a) (hd : decode bc pc = .ok (.putfield i, 3)) (hp : pc + 3 = pc')
    (k : ∀ (T' : State) (h' : Heap), oH p l e R s m args below meth c bc ml y rt Z n0 T' h' cells slots false I → Wr h h' a (Jvm.RoadKit.slotOf Z C f d) v' → oG p e below s n0 kc ks J Q (T'.setTop (mkF m pc' L S))) : oG p e below s n0 kc ks J Q (T.setTop (mkF m pc L (v :: .ref a :: S))) := by
  obtain ⟨vm0, k0, locs, X, eT, N, hx, hby, hml, hZ, hown, hnm, hret, hlk, hn, hS, hk, hB, hI⟩ := H
  subst hp
  obtain ⟨T', h', X', e', W, st⟩ := putFN X hx hZ hown w Via.refl eT F E (wl.imp id fun q => ⟨q.1, q.2.1, hnm.trans q.2.2⟩) wi hty hna hft (g := mkF m pc L (v :: .ref a :: S)) rfl rfl (hb hby hd)
  exact oG.go st (k T' h' ⟨vm0, k0, _, X', e', Fr.snoc X' N ha, hx, hby, hml, hZ, hown, hnm, hret, hlk, hn, hS, (by rw [W.size]; exact hk), (fun q => (nomatch q)), hI⟩ W)
theorem o_getS (H : oH p l e R s m args below meth c bc ml y rt Z n0 T h cells slots b I) {i : Nat} {C f d host : String} {v : Value} (w : (Jvm.Cond.fieldLink y.cls i C f d).before a0 Z = true ∨ (Jvm.Cond.fieldLinkNest y.cls i C f d host).before a0 Z = true) (F : Sta Z h C f d v) (hd : decode bc pc = .ok (.getstatic i, 3)) (hp : pc + 3 = pc')
    (k : ∀ (T' : State), oH p l e R s m args below meth c bc ml y rt Z n0 T' h cells slots b I → oG p e below s n0 kc ks J Q (T'.setTop (mkF m pc' L (v :: S)))) : oG p e below s n0 kc ks J Q (T.setTop (mkF m pc L S)) := by
  obtain ⟨vm0, k0, locs, X, eT, N, hx, hby, hml, hZ, hown, hnm, hret, hlk, hn, hS, hk, hB, hI⟩ := H
  subst hp
  obtain ⟨T', X', e', st⟩ := getS2 X hx hZ hown (host := host) w Via.refl eT F (g := mkF m pc L S) rfl (hb hby hd)
  exact oG.go st (k T' ⟨vm0, k0, locs, X', e', N, hx, hby, hml, hZ, hown, hnm, hret, hlk, hn, hS, hk, hB, hI⟩)
theorem o_instY (H : oH p l e R s m args below meth c bc ml y rt Z n0 T h cells slots b I) {i : Nat} {a : Addr} {K : String} (w : (Jvm.Cond.classLink y.cls i K).before a0 Z = true) (Ii : Ins Z h a K true) (hd : decode bc pc = .ok (.instanceof i, 3)) (hp : pc + 3 = pc') (k : ∀ (T' : State), oH p l e R s m args below meth c bc ml y rt Z n0 T' h cells slots b I → oG p e below s n0 kc ks J Q (T'.setTop (mkF m pc' L (.int 1 :: S)))) : oG p e below s n0 kc ks J Q (T.setTop (mkF m pc L (.ref a :: S))) := by
  obtain ⟨vm0, k0, locs, X, eT, N, hx, hby, hml, hZ, hown, hnm, hret, hlk, hn, hS, hk, hB, hI⟩ := H
  subst hp
  obtain ⟨T', X', e', st⟩ := instY X hx hZ hown w eT Ii (g := mkF m pc L (.ref a :: S)) rfl rfl (hb hby hd)
  exact oG.go st (k T' ⟨vm0, k0, locs, X', e', N, hx, hby, hml, hZ, hown, hnm, hret, hlk, hn, hS, hk, hB, hI⟩)
theorem o_castY (H : oH p l e R s m args below meth c bc ml y rt Z n0 T h cells slots b I) {i : Nat} {a : Addr} {K : String} (w : (Jvm.Cond.classLink y.cls i K).before a0 Z = true) (Ii : Ins Z h a K true) (hd : decode bc pc = .ok (.checkcast i, 3)) (hp : pc + 3 = pc') (k : ∀ (T' : State), oH p l e R s m args below meth c bc ml y rt Z n0 T' h cells slots b I → oG p e below s n0 kc ks J Q (T'.setTop (mkF m pc' L (.ref a :: S)))) : oG p e below s n0 kc ks J Q (T.setTop (mkF m pc L (.ref a :: S))) := by
  obtain ⟨vm0, k0, locs, X, eT, N, hx, hby, hml, hZ, hown, hnm, hret, hlk, hn, hS, hk, hB, hI⟩ := H
  subst hp
  obtain ⟨T', X', e', st⟩ := castY X hx hZ hown w eT Ii (g := mkF m pc L (.ref a :: S)) rfl rfl (hb hby hd)
  exact oG.go st (k T' ⟨vm0, k0, locs, X', e', N, hx, hby, hml, hZ, hown, hnm, hret, hlk, hn, hS, hk, hB, hI⟩)
theorem o_instNo (H : oH p l e R s m args below meth c bc ml y rt Z n0 T h cells slots b I) {i : Nat} {a : Addr} {C K : String} (w : (Jvm.Cond.classLink y.cls i K).before a0 Z = true) (E : Exa Z h a C) (F : ∃ c t, Z.vm.findClass C = some c ∧ Z.vm.findClass K = some t ∧ Z.vm.assignable c t = false) (hd : decode bc pc = .ok (.instanceof i, 3)) (hp : pc + 3 = pc') (k : ∀ (T' : State), oH p l e R s m args below meth c bc ml y rt Z n0 T' h cells slots b I → oG p e below s n0 kc ks J Q (T'.setTop (mkF m pc' L (.int 0 :: S)))) : oG p e below s n0 kc ks J Q (T.setTop (mkF m pc L (.ref a :: S))) := by
  obtain ⟨vm0, k0, locs, X, eT, N, hx, hby, hml, hZ, hown, hnm, hret, hlk, hn, hS, hk, hB, hI⟩ := H
  subst hp
  obtain ⟨T', X', e', st⟩ := instNo X hx hZ hown w eT E F (g := mkF m pc L (.ref a :: S)) rfl rfl (hb hby hd)
  exact oG.go st (k T' ⟨vm0, k0, locs, X', e', N, hx, hby, hml, hZ, hown, hnm, hret, hlk, hn, hS, hk, hB, hI⟩)
theorem o_instNull (H : oH p l e R s m args below meth c bc ml y rt Z n0 T h cells slots b I) {i : Nat} (hd : decode bc pc = .ok (.instanceof i, 3)) (hp : pc + 3 = pc') (k : oG p e below s n0 kc ks J Q (T.setTop (mkF m pc' L (.int 0 :: S)))) : oG p e below s n0 kc ks J Q (T.setTop (mkF m pc L (.null :: S))) := by
  obtain ⟨vm0, k0, locs, X, eT, N, hx, hby, hml, hZ, hown, hnm, hret, hlk, hn, hS, hk, hB, hI⟩ := H
  subst hp
  exact oG.go (X.instanceofNull hx (g := mkF m pc L (.null :: S)) rfl rfl (hb hby hd)) k
theorem o_aaloadC (H : oH p l e R s m args below meth c bc ml y rt Z n0 T h cells slots b I) {a : Addr} {j : Int32} {cl : Cell} {ty : FieldType} (v : Value) (A : Arr Z h a cl ty) (hty : ty.isReference = true) (hin : ¬ (j < 0 ∨ cl.slots.size ≤ j.toNatClampNeg)) (hv : cl.slots[j.toNatClampNeg]? = some v) (hd : decode bc pc = .ok (.aaload, 1)) (hp : pc + 1 = pc') (k : oG p e below s n0 kc ks J Q (T.setTop (mkF m pc' L (v :: S)))) : oG p e below s n0 kc ks J Q (T.setTop (mkF m pc L (.int j :: .ref a :: S))) := by
  obtain ⟨vm0, k0, locs, X, eT, N, hx, hby, hml, hZ, hown, hnm, hret, hlk, hn, hS, hk, hB, hI⟩ := H
  subst hp
  exact oG.go (fun t hr => X.aaload hx (j := j) (v := v) (by rw [eT]; exact A.1) (State.isArrayOf_alike hZ.alike A.2.1) hty A.2.2 hin hv (g := mkF m pc L (.int j :: .ref a :: S)) rfl rfl (hb hby hd) t hr) k
theorem o_kext {h' : Heap} (K : Keep h h' []) : Ext h h' := ⟨K.1, fun a c q => K.2.1 a c q nin0⟩
theorem o_etrans {h' h'' : Heap} (E : Ext h h') (E' : Ext h' h'') : Ext h h'' := ⟨Nat.le_trans E.1 E'.1, fun a c q => E'.2 a c (E.2 a c q)⟩
/-- C's chain of superclasses, ended by O, meets no class that can be made of the name K -/
theorem o_noSub {C K : String} {n : Nat} (wk : (Jvm.Cond.instantiable K n).before a0 Z = true) (kd : ∃ c k, Z.vm.findClass C = some c ∧ Z.vm.classes[c]? = some k ∧ k.kind = .ordinary) (hn : C ≠ K) (nf : ∀ c t, Z.vm.findClass C = some c → Z.vm.findClass K = some t → ∀ fuel, Z.vm.isSubclassAux fuel c t = false) : ∃ c t, Z.vm.findClass C = some c ∧ Z.vm.findClass K = some t ∧ Z.vm.assignable c t = false := by
  obtain ⟨c, k, h1, h2, h3⟩ := kd
  obtain ⟨t, kt, g1, g2, g3, g4, -⟩ := Cond.instantiable_spec wk
  have ne := ids_ne h1 g1 hn
  have g5 : kt.isInterface = false := (Bool.or_eq_false_iff.mp g4).1
  refine ⟨c, t, h1, g1, ?_⟩
  show Z.vm.assignableAux (255 + 1) c t = false
  simp [Vm.assignableAux, ne, h2, g2, h3, g3, g5, Vm.isSubclass, nf c t h1 g1]
theorem o_subRoot {O K : String} {n : Nat} (w : (Jvm.Cond.noSuperclass O).before a0 Z = true) (wk : (Jvm.Cond.instantiable K n).before a0 Z = true) (hn : O ≠ K) : NS Z O K := by
  obtain ⟨c, k, h1, h2, h3, -, -⟩ := Cond.noSuperclass_spec w
  obtain ⟨t, kt, g1, g2, g3, g4, -⟩ := Cond.instantiable_spec wk
  have ne := ids_ne h1 g1 hn
  refine ⟨c, t, h1, g1, fun fuel => ?_⟩
  cases fuel with
  | zero => rfl
  | succ f => simp [Vm.isSubclassAux, ne, h2, h3]
theorem o_ns {C S' K : String} {n : Nat} (w : (Jvm.Cond.superclass C S').before a0 Z = true) (wk : (Jvm.Cond.instantiable K n).before a0 Z = true) (N : NS Z C K) (hn : C ≠ K) : ∃ c t, Z.vm.findClass C = some c ∧ Z.vm.findClass K = some t ∧ Z.vm.assignable c t = false := by
  obtain ⟨c, h0⟩ := found_sup w
  obtain ⟨p, k, kp, h1, h2, h3, h4, h5, -, h7⟩ := Cond.superclass_spec h0 w
  refine o_noSub wk ⟨c, k, h0, h2, h5⟩ hn fun c' t' q1 q2 => ?_
  obtain ⟨c1, t1, r1, r2, r3⟩ := N
  cases r1.symm.trans q1
  cases r2.symm.trans q2
  exact r3
/-- an array, by the list of what it holds -/
def oA (ty : FieldType) (Z : State) (h : Heap) (a : Addr) (vs : List Value) : Prop := vs.length < 2 ^ 31 ∧ ∃ cl : Cell, Arr Z h a cl ty ∧ cl.slots = vs.toArray
theorem oA.ext {ty : FieldType} {h' : Heap} {a : Addr} {vs : List Value} (A : oA ty Z h a vs) (E : Ext h h') : oA ty Z h' a vs := by
  obtain ⟨q, cl, A, r⟩ := A; exact ⟨q, cl, A.ext E, r⟩
theorem oA.other {ty : FieldType} {h' : Heap} {a b : Addr} {sl : Nat} {v : Value} {vs : List Value} (A : oA ty Z h b vs) (W : Wr h h' a sl v) (ne : b ≠ a) : oA ty Z h' b vs := by
  obtain ⟨q, cl, A, r⟩ := A; exact ⟨q, cl, A.other W ne, r⟩
theorem oA.keep {ty : FieldType} {h' : Heap} {a : Addr} {ws : List Addr} {vs : List Value} (A : oA ty Z h a vs) (K : Keep h h' ws) (ne : a ∉ ws) : oA ty Z h' a vs := by
  obtain ⟨q, cl, A, r⟩ := A; exact ⟨q, cl, ⟨K.2.1 a cl A.1 ne, A.2⟩, r⟩
theorem oA.lt {ty : FieldType} {a : Addr} {vs : List Value} (A : oA ty Z h a vs) : a < h.size := by
  obtain ⟨q, cl, A, r⟩ := A; exact A.lt
theorem oA.same {ty : FieldType} {h' : Heap} {a : Addr} {j : Nat} {v : Value} {vs : List Value} (A : oA ty Z h a vs) (W : Wr h h' a j v) : oA ty Z h' a (vs.set j v) := by
  obtain ⟨q, cl, A, r⟩ := A
  refine ⟨by rw [List.length_set]; exact q, _, A.same W, ?_⟩
  show cl.slots.setIfInBounds j v = _
  rw [r, List.setIfInBounds_toArray]
theorem o_inb {cl : Cell} {vs : List Value} {j : Int32} {i : Nat} (r : cl.slots = vs.toArray) (h0 : j.toInt = (i : Int)) (h1 : i < vs.length) : ¬ (j < 0 ∨ cl.slots.size ≤ j.toNatClampNeg) := by
  have e0 : (0 : Int32).toInt = 0 := rfl
  have e1 : cl.slots.size = vs.length := by rw [r]; simp
  rw [Int32.lt_iff_toInt_lt, e0, e1]
  simp only [Int32.toNatClampNeg]; omega
theorem o_nat {j : Int32} {i : Nat} (h0 : j.toInt = (i : Int)) : j.toNatClampNeg = i := by
  simp only [Int32.toNatClampNeg]; omega
theorem o_elt {cl : Cell} {vs : List Value} {j : Int32} {i : Nat} {v : Value} (r : cl.slots = vs.toArray) (h0 : j.toInt = (i : Int)) (hv : vs[i]? = some v) : cl.slots[j.toNatClampNeg]? = some v := by
  rw [r, o_nat h0]; simpa using hv
theorem o_lt_of {vs : List Value} {i : Nat} {v : Value} (hv : vs[i]? = some v) : i < vs.length := (List.getElem?_eq_some_iff.mp hv).1
theorem o_newarr (H : oH p l e R s m args below meth c bc ml y rt Z n0 T h cells slots b I) {aty : ArrayType} {z : Int32} (cap n : Nat) (w : (Jvm.Cond.arrayClass (newarray.typeOf aty)).before a0 Z = true) (hz : z.toInt = (n : Int)) (hcap : n ≤ cap) (hb8 : cap * 8 ≤ 536870912) (hd : decode bc pc = .ok (.newarray aty, 2)) (hp : pc + 2 = pc') (hc : cells + 1 ≤ R.cells) (hl : slots + cap ≤ R.slots)
    (k : ∀ (T' : State) (h' : Heap) (a : Addr), a = h.size → oH p l e R s m args below meth c bc ml y rt Z n0 T' h' (cells + 1) (slots + cap) b I → Ext h h' → oA (newarray.typeOf aty) Z h' a (List.replicate n (defaultValue (newarray.typeOf aty))) → oG p e below s n0 kc ks J Q (T'.setTop (mkF m pc' L (.ref a :: S)))) : oG p e below s n0 kc ks J Q (T.setTop (mkF m pc L (.int z :: S))) := by
  obtain ⟨vm0, k0, locs, X, eT, N, hx, hby, hml, hZ, hown, hnm, hret, hlk, hn, hS, hk, hB, hI⟩ := H
  subst hp
  have e0 : (0 : Int32).toInt = 0 := rfl
  obtain ⟨T', h', kk, X', e', E, A, st⟩ := newP X hx hZ w eT (g := mkF m pc L (.int z :: S)) rfl (hb hby hd) rfl (by rw [Int32.lt_iff_toInt_lt, e0]; omega) (cap := cap) (by simp only [Int32.toNatClampNeg]; omega) hb8 hc hl
  refine oG.go st (k T' h' _ rfl ⟨vm0, k0, locs, X', e', N, hx, hby, hml, hZ, hown, hnm, hret, hlk, hn, hS, Nat.le_trans hk E.1, hB, hI⟩ E ⟨?_, _, A, ?_⟩)
  · have := Int32.toInt_lt z
    rw [List.length_replicate]; omega
  · show Array.replicate z.toNatClampNeg _ = _
    rw [o_nat hz, ← List.toArray_replicate]
theorem o_iaload (H : oH p l e R s m args below meth c bc ml y rt Z n0 T h cells slots b I) {a : Addr} {j : Int32} {vs : List Value} (i : Nat) (v : Value) (A : oA .int Z h a vs) (h0 : j.toInt = (i : Int)) (hv : vs[i]? = some v) (hd : decode bc pc = .ok (.iaload, 1)) (hp : pc + 1 = pc') (k : oG p e below s n0 kc ks J Q (T.setTop (mkF m pc' L (v :: S)))) : oG p e below s n0 kc ks J Q (T.setTop (mkF m pc L (.int j :: .ref a :: S))) := by
  obtain ⟨vm0, k0, locs, X, eT, N, hx, hby, hml, hZ, hown, hnm, hret, hlk, hn, hS, hk, hB, hI⟩ := H
  subst hp
  obtain ⟨-, cl, A, r⟩ := A
  exact oG.go (fun t hr => X.iaload hx (j := j) (v := v) (by rw [eT]; exact A.1) (State.isArrayOf_alike hZ.alike A.2.1) A.2.2 (o_inb r h0 (o_lt_of hv)) (o_elt r h0 hv) (g := mkF m pc L (.int j :: .ref a :: S)) rfl rfl (hb hby hd) t hr) k
theorem o_caload (H : oH p l e R s m args below meth c bc ml y rt Z n0 T h cells slots b I) {a : Addr} {j : Int32} {vs : List Value} (i : Nat) (v : Value) (A : oA .char Z h a vs) (h0 : j.toInt = (i : Int)) (hv : vs[i]? = some v) (hd : decode bc pc = .ok (.caload, 1)) (hp : pc + 1 = pc') (k : oG p e below s n0 kc ks J Q (T.setTop (mkF m pc' L (v :: S)))) : oG p e below s n0 kc ks J Q (T.setTop (mkF m pc L (.int j :: .ref a :: S))) := by
  obtain ⟨vm0, k0, locs, X, eT, N, hx, hby, hml, hZ, hown, hnm, hret, hlk, hn, hS, hk, hB, hI⟩ := H
  subst hp
  obtain ⟨-, cl, A, r⟩ := A
  exact oG.go (fun t hr => X.caload hx (j := j) (v := v) (by rw [eT]; exact A.1) (State.isArrayOf_alike hZ.alike A.2.1) A.2.2 (o_inb r h0 (o_lt_of hv)) (o_elt r h0 hv) (g := mkF m pc L (.int j :: .ref a :: S)) rfl rfl (hb hby hd) t hr) k
theorem o_baload (H : oH p l e R s m args below meth c bc ml y rt Z n0 T h cells slots b I) {a : Addr} {j : Int32} {vs : List Value} (i : Nat) (v : Value) (A : oA .byte Z h a vs) (h0 : j.toInt = (i : Int)) (hv : vs[i]? = some v) (hd : decode bc pc = .ok (.baload, 1)) (hp : pc + 1 = pc') (k : oG p e below s n0 kc ks J Q (T.setTop (mkF m pc' L (v :: S)))) : oG p e below s n0 kc ks J Q (T.setTop (mkF m pc L (.int j :: .ref a :: S))) := by
  obtain ⟨vm0, k0, locs, X, eT, N, hx, hby, hml, hZ, hown, hnm, hret, hlk, hn, hS, hk, hB, hI⟩ := H
  subst hp
  obtain ⟨-, cl, A, r⟩ := A
  exact oG.go (fun t hr => X.baloadBytes hx (j := j) (v := v) (by rw [eT]; exact A.1) (State.isArrayOf_alike hZ.alike A.2.1) A.2.2 (o_inb r h0 (o_lt_of hv)) (o_elt r h0 hv) (g := mkF m pc L (.int j :: .ref a :: S)) rfl rfl (hb hby hd) t hr) k
theorem o_laload (H : oH p l e R s m args below meth c bc ml y rt Z n0 T h cells slots b I) {a : Addr} {j : Int32} {vs : List Value} (i : Nat) (v : Value) (A : oA .long Z h a vs) (h0 : j.toInt = (i : Int)) (hv : vs[i]? = some v) (hd : decode bc pc = .ok (.laload, 1)) (hp : pc + 1 = pc') (k : oG p e below s n0 kc ks J Q (T.setTop (mkF m pc' L (v :: S)))) : oG p e below s n0 kc ks J Q (T.setTop (mkF m pc L (.int j :: .ref a :: S))) := by
  obtain ⟨vm0, k0, locs, X, eT, N, hx, hby, hml, hZ, hown, hnm, hret, hlk, hn, hS, hk, hB, hI⟩ := H
  subst hp
  obtain ⟨-, cl, A, r⟩ := A
  exact oG.go (fun t hr => X.laload hx (j := j) (v := v) (by rw [eT]; exact A.1) (State.isArrayOf_alike hZ.alike A.2.1) A.2.2 (o_inb r h0 (o_lt_of hv)) (o_elt r h0 hv) (g := mkF m pc L (.int j :: .ref a :: S)) rfl rfl (hb hby hd) t hr) k
theorem o_arraylength (H : oH p l e R s m args below meth c bc ml y rt Z n0 T h cells slots b I) {a : Addr} {ty : FieldType} {vs : List Value} (z : Int32) (A : oA ty Z h a vs) (hz : vs.length.toInt32 = z) (hd : decode bc pc = .ok (.arraylength, 1)) (hp : pc + 1 = pc') (k : oG p e below s n0 kc ks J Q (T.setTop (mkF m pc' L (.int z :: S)))) : oG p e below s n0 kc ks J Q (T.setTop (mkF m pc L (.ref a :: S))) := by
  obtain ⟨vm0, k0, locs, X, eT, N, hx, hby, hml, hZ, hown, hnm, hret, hlk, hn, hS, hk, hB, hI⟩ := H
  subst hp
  obtain ⟨-, cl, A, r⟩ := A
  have e1 : cl.slots.size.toInt32 = z := by rw [← hz, r]; simp
  exact oG.go (fun t hr => X.arraylength hx (by rw [eT]; exact A.1) (State.isArrayOf_alike hZ.alike A.2.1) (g := mkF m pc L (.ref a :: S)) rfl rfl (hb hby hd) t (by rw [e1]; exact hr)) k
theorem o_iastore (H : oH p l e R s m args below meth c bc ml y rt Z n0 T h cells slots b I) {a : Addr} {j : Int32} {z : Int32} {vs : List Value} (i : Nat) (A : oA .int Z h a vs) (h0 : j.toInt = (i : Int)) (h1 : i < vs.length) (ha : n0 ≤ a) (hd : decode bc pc = .ok (.iastore, 1)) (hp : pc + 1 = pc')
    (k : ∀ (T' : State) (h' : Heap), oH p l e R s m args below meth c bc ml y rt Z n0 T' h' cells slots false I → Wr h h' a i (.int z) → oA .int Z h' a (vs.set i (.int z)) → oG p e below s n0 kc ks J Q (T'.setTop (mkF m pc' L S))) : oG p e below s n0 kc ks J Q (T.setTop (mkF m pc L (.int z :: .int j :: .ref a :: S))) := by
  obtain ⟨vm0, k0, locs, X, eT, N, hx, hby, hml, hZ, hown, hnm, hret, hlk, hn, hS, hk, hB, hI⟩ := H
  subst hp
  have A' := A
  obtain ⟨-, cl, A, r⟩ := A
  obtain ⟨T', h', X', e', W, st⟩ := stI X hx hZ eT A (j := j) (o_inb r h0 h1) (g := mkF m pc L (.int z :: .int j :: .ref a :: S)) rfl rfl (hb hby hd)
  have en := o_nat h0
  have W2 : Wr h h' a i _ := en ▸ W
  exact oG.go st (k T' h' ⟨vm0, k0, _, X', e', Fr.snoc X' N ha, hx, hby, hml, hZ, hown, hnm, hret, hlk, hn, hS, (by rw [W2.size]; exact hk), (fun q => (nomatch q)), hI⟩ W2 (A'.same W2))
theorem o_castore (H : oH p l e R s m args below meth c bc ml y rt Z n0 T h cells slots b I) {a : Addr} {j : Int32} {z : Int32} {vs : List Value} (i : Nat) (A : oA .char Z h a vs) (h0 : j.toInt = (i : Int)) (h1 : i < vs.length) (ha : n0 ≤ a) (hd : decode bc pc = .ok (.castore, 1)) (hp : pc + 1 = pc')
    (k : ∀ (T' : State) (h' : Heap), oH p l e R s m args below meth c bc ml y rt Z n0 T' h' cells slots false I → Wr h h' a i (.int (nar .char z)) → oA .char Z h' a (vs.set i (.int (nar .char z))) → oG p e below s n0 kc ks J Q (T'.setTop (mkF m pc' L S))) : oG p e below s n0 kc ks J Q (T.setTop (mkF m pc L (.int z :: .int j :: .ref a :: S))) := by
  obtain ⟨vm0, k0, locs, X, eT, N, hx, hby, hml, hZ, hown, hnm, hret, hlk, hn, hS, hk, hB, hI⟩ := H
  subst hp
  have A' := A
  obtain ⟨-, cl, A, r⟩ := A
  obtain ⟨T', h', X', e', W, st⟩ := stC X hx hZ eT A (j := j) (o_inb r h0 h1) (g := mkF m pc L (.int z :: .int j :: .ref a :: S)) rfl rfl (hb hby hd)
  have en := o_nat h0
  have W2 : Wr h h' a i _ := en ▸ W
  exact oG.go st (k T' h' ⟨vm0, k0, _, X', e', Fr.snoc X' N ha, hx, hby, hml, hZ, hown, hnm, hret, hlk, hn, hS, (by rw [W2.size]; exact hk), (fun q => (nomatch q)), hI⟩ W2 (A'.same W2))
theorem o_bastore (H : oH p l e R s m args below meth c bc ml y rt Z n0 T h cells slots b I) {a : Addr} {j : Int32} {z : Int32} {vs : List Value} (i : Nat) (A : oA .byte Z h a vs) (h0 : j.toInt = (i : Int)) (h1 : i < vs.length) (ha : n0 ≤ a) (hd : decode bc pc = .ok (.bastore, 1)) (hp : pc + 1 = pc')
    (k : ∀ (T' : State) (h' : Heap), oH p l e R s m args below meth c bc ml y rt Z n0 T' h' cells slots false I → Wr h h' a i (.int (nar .byte z)) → oA .byte Z h' a (vs.set i (.int (nar .byte z))) → oG p e below s n0 kc ks J Q (T'.setTop (mkF m pc' L S))) : oG p e below s n0 kc ks J Q (T.setTop (mkF m pc L (.int z :: .int j :: .ref a :: S))) := by
  obtain ⟨vm0, k0, locs, X, eT, N, hx, hby, hml, hZ, hown, hnm, hret, hlk, hn, hS, hk, hB, hI⟩ := H
  subst hp
  have A' := A
  obtain ⟨-, cl, A, r⟩ := A
  obtain ⟨T', h', X', e', W, st⟩ := stB X hx hZ eT A (j := j) (o_inb r h0 h1) (g := mkF m pc L (.int z :: .int j :: .ref a :: S)) rfl rfl (hb hby hd)
  have en := o_nat h0
  have W2 : Wr h h' a i _ := en ▸ W
  exact oG.go st (k T' h' ⟨vm0, k0, _, X', e', Fr.snoc X' N ha, hx, hby, hml, hZ, hown, hnm, hret, hlk, hn, hS, (by rw [W2.size]; exact hk), (fun q => (nomatch q)), hI⟩ W2 (A'.same W2))
theorem o_lastore (H : oH p l e R s m args below meth c bc ml y rt Z n0 T h cells slots b I) {a : Addr} {j : Int32} {z : Int64} {vs : List Value} (i : Nat) (A : oA .long Z h a vs) (h0 : j.toInt = (i : Int)) (h1 : i < vs.length) (ha : n0 ≤ a) (hd : decode bc pc = .ok (.lastore, 1)) (hp : pc + 1 = pc')
    (k : ∀ (T' : State) (h' : Heap), oH p l e R s m args below meth c bc ml y rt Z n0 T' h' cells slots false I → Wr h h' a i (.long z) → oA .long Z h' a (vs.set i (.long z)) → oG p e below s n0 kc ks J Q (T'.setTop (mkF m pc' L S))) : oG p e below s n0 kc ks J Q (T.setTop (mkF m pc L (.long z :: .int j :: .ref a :: S))) := by
  obtain ⟨vm0, k0, locs, X, eT, N, hx, hby, hml, hZ, hown, hnm, hret, hlk, hn, hS, hk, hB, hI⟩ := H
  subst hp
  have A' := A
  obtain ⟨-, cl, A, r⟩ := A
  obtain ⟨T', h', X', e', W, st⟩ := stJ X hx hZ eT A (j := j) (o_inb r h0 h1) (g := mkF m pc L (.long z :: .int j :: .ref a :: S)) rfl rfl (hb hby hd)
  have en := o_nat h0
  have W2 : Wr h h' a i _ := en ▸ W
  exact oG.go st (k T' h' ⟨vm0, k0, _, X', e', Fr.snoc X' N ha, hx, hby, hml, hZ, hown, hnm, hret, hlk, hn, hS, (by rw [W2.size]; exact hk), (fun q => (nomatch q)), hI⟩ W2 (A'.same W2))
theorem o_static (H : oH p l e R s m args below meth c bc ml y rt Z n0 T h cells slots b I) {yc : MethodName} {bcc : ByteArray} {maxL i : Nat} {rtc : Option FieldType} {rm : Room} {Q' : Option Value → Heap → Prop} {St : List Value} (argsL : List Value) (S : List Value)
    {Ic Jc : Vm → Prop} (con : oC l Z n0 Ic Jc yc bcc maxL rtc rm rm.cells rm.slots argsL.toArray h Q') (wl : (Jvm.Cond.methodLink y.cls i yc).before a0 Z = true) (ws : (Jvm.Cond.static yc).before a0 Z = true) (wz : (Jvm.Cond.initialized yc.cls).before a0 Z = true) (wc : (Jvm.Cond.code yc bcc maxL rtc).before a0 Z = true) (hy : yc.cls ≠ "java/lang/invoke/MethodHandle" ∧ yc.cls ≠ "java/lang/invoke/VarHandle") (hlen : ∀ sig, parseMethodDescriptor yc.desc = some sig → argsL.length = sig.parameters.length) (hst : St = argsL.reverse ++ S) (hsz : L.size = ml) (hf : rm.frames + 1 ≤ R.frames) (hlo : (S.map fun v => v.category).sum + (maxL + 11) + rm.locals ≤ R.locals) (hc : cells + rm.cells ≤ R.cells) (hs : slots + rm.slots ≤ R.slots)
    (hd : decode bc pc = .ok (.invokestatic i, 3)) (hp : pc + 3 = pc') (hIc : ∀ vm, I vm → Ic vm) (hstc : oSt Ic) (k : ∀ (T' : State) (v : Option Value) (h' : Heap), oH p l e R s m args below meth c bc ml y rt Z n0 T' h' (cells + rm.cells) (slots + rm.slots) false Jc → Q' v h' → oG p e below s n0 kc ks J Q (T'.setTop (mkF m pc' L (v.toList ++ S)))) : oG p e below s n0 kc ks J Q (T.setTop (mkF m pc L St)) := by
  obtain ⟨vm0, k0, locs, X, eT, N, hx, hby, hml, hZ, hown, hnm, hret, hlk, hn, hS, hk, hB, hI⟩ := H
  subst hp
  subst hst
  obtain ⟨v, _, ⟨T', L1, k1, n1⟩, -, X', hS', hgr, ⟨Lc, hQ, l', y', z'⟩, st⟩ := callSS X hx (y := yc) hown (mvT hZ wl) (mvT hZ ws) (mvT hZ wz) (mvT hZ wc) hy (o_back (W := (S.map fun v => v.category).sum) con hZ (hIc _ hI) hstc wc wz hf hlo) (g := mkF m pc L (argsL.reverse ++ S)) rfl (by rw [hml]; exact hsz) (argsL := argsL) (rest := S) hlen rfl (by show 2 * 0 + _ ≤ _; omega) (hb hby hd) (fun _ _ => ⟨rfl, eT, hc, hs⟩)
  dsimp only [Pt.U, Pt.locs, Pt.cells, Pt.slots] at X' l' y' z' st hQ hS' hgr
  subst l' y' z'
  exact oG.go (fun _ hr => st.trans hr) (k _ _ _ ⟨T'.vm, T'.heap.size, _, X', rfl, Fr.app N hQ.2.1, hx, hby, hml, State.Warmed39.trans (t := s.setVm vm0) hZ hS'.1, (by rw [hS'.1.alike.findClass]; exact hown), hnm, hret, hlk, hn, hS.trans hS' (Nat.le_trans (by rw [eT]; exact hk) hgr), Nat.le_refl _, (fun q => (nomatch q)), hQ.2.2⟩ hQ.1)
theorem o_special (H : oH p l e R s m args below meth c bc ml y rt Z n0 T h cells slots b I) {yc : MethodName} {bcc : ByteArray} {maxL i : Nat} {rm : Room} {a : Addr} {Q' : Option Value → Heap → Prop} {St : List Value} (argsL : List Value) (S : List Value)
    {Ic Jc : Vm → Prop} (con : oC l Z n0 Ic Jc yc bcc maxL none rm rm.cells rm.slots (.ref a :: argsL).toArray h Q') (hy1 : yc.name = "<init>") (wl : (Jvm.Cond.methodLink y.cls i yc).before a0 Z = true) (ws : (Jvm.Cond.instanceMethod yc).before a0 Z = true) (wz : (Jvm.Cond.initialized yc.cls).before a0 Z = true) (wc : (Jvm.Cond.code yc bcc maxL none).before a0 Z = true) (hy : yc.cls ≠ "java/lang/invoke/MethodHandle" ∧ yc.cls ≠ "java/lang/invoke/VarHandle") (hlen : ∀ sig, parseMethodDescriptor yc.desc = some sig → argsL.length = sig.parameters.length) (hst : St = argsL.reverse ++ .ref a :: S) (hsz : L.size = ml) (hf : rm.frames + 1 ≤ R.frames) (hlo : (S.map fun v => v.category).sum + (maxL + 11) + rm.locals ≤ R.locals) (hc : cells + rm.cells ≤ R.cells) (hs : slots + rm.slots ≤ R.slots)
    (hd : decode bc pc = .ok (.invokespecial i, 3)) (hp : pc + 3 = pc') (hIc : ∀ vm, I vm → Ic vm) (hstc : oSt Ic) (k : ∀ (T' : State) (v : Option Value) (h' : Heap), oH p l e R s m args below meth c bc ml y rt Z n0 T' h' (cells + rm.cells) (slots + rm.slots) false Jc → Q' v h' → oG p e below s n0 kc ks J Q (T'.setTop (mkF m pc' L (v.toList ++ S)))) : oG p e below s n0 kc ks J Q (T.setTop (mkF m pc L St)) := by
  obtain ⟨vm0, k0, locs, X, eT, N, hx, hby, hml, hZ, hown, hnm, hret, hlk, hn, hS, hk, hB, hI⟩ := H
  subst hp
  subst hst
  obtain ⟨v, _, ⟨T', L1, k1, n1⟩, -, X', hS', hgr, ⟨Lc, hQ, l', y', z'⟩, st⟩ := X.specialBackS hx (y := yc) hy1 hown (mvT hZ wl) (mvT hZ ws) (mvT hZ wc) hy (o_back (W := (S.map fun v => v.category).sum) con hZ (hIc _ hI) hstc wc wz hf hlo) (g := mkF m pc L (argsL.reverse ++ .ref a :: S)) rfl (by rw [hml]; exact hsz) (Steps.refl _) (a := a) (argsL := argsL) (rest := S) hlen rfl (by show 2 * 0 + _ ≤ _; omega) (hb hby hd) (fun _ _ => ⟨rfl, eT, hc, hs⟩)
  dsimp only [Pt.U, Pt.locs, Pt.cells, Pt.slots] at X' l' y' z' st hQ hS' hgr
  subst l' y' z'
  exact oG.go (fun _ hr => st.trans hr) (k _ _ _ ⟨T'.vm, T'.heap.size, _, X', rfl, Fr.app N hQ.2.1, hx, hby, hml, State.Warmed39.trans (t := s.setVm vm0) hZ hS'.1, (by rw [hS'.1.alike.findClass]; exact hown), hnm, hret, hlk, hn, hS.trans hS' (Nat.le_trans (by rw [eT]; exact hk) hgr), Nat.le_refl _, (fun q => (nomatch q)), hQ.2.2⟩ hQ.1)
theorem o_virtual (H : oH p l e R s m args below meth c bc ml y rt Z n0 T h cells slots b I) {yc zc : MethodName} {K : String} {bcc : ByteArray} {maxL i : Nat} {rtc : Option FieldType} {rm : Room} {a : Addr} {Q' : Option Value → Heap → Prop} {St : List Value} (argsL : List Value) (S : List Value)
    {Ic Jc : Vm → Prop} (con : oC l Z n0 Ic Jc zc bcc maxL rtc rm rm.cells rm.slots (.ref a :: argsL).toArray h Q') (E : Exa Z h a K) (wl : (Jvm.Cond.methodLink y.cls i yc).before a0 Z = true) (wd : (Jvm.Cond.declares yc).before a0 Z = true) (hnf : ∀ {s' : State}, Z.Warmed39 s'.vm → NotFace s' yc) (wsel : (Jvm.Cond.selects K yc zc).before a0 Z = true) (ws : (Jvm.Cond.instanceMethod zc).before a0 Z = true) (wz : (Jvm.Cond.initialized zc.cls).before a0 Z = true) (wc : (Jvm.Cond.code zc bcc maxL rtc).before a0 Z = true) (hy : yc.cls ≠ "java/lang/invoke/MethodHandle" ∧ yc.cls ≠ "java/lang/invoke/VarHandle") (hlen : ∀ sig, parseMethodDescriptor yc.desc = some sig → argsL.length = sig.parameters.length) (hst : St = argsL.reverse ++ .ref a :: S) (hsz : L.size = ml) (hf : rm.frames + 1 ≤ R.frames) (hlo : (S.map fun v => v.category).sum + (maxL + 11) + rm.locals ≤ R.locals) (hc : cells + rm.cells ≤ R.cells) (hs : slots + rm.slots ≤ R.slots)
    (hd : decode bc pc = .ok (.invokevirtual i, 3)) (hp : pc + 3 = pc') (hIc : ∀ vm, I vm → Ic vm) (hstc : oSt Ic) (k : ∀ (T' : State) (v : Option Value) (h' : Heap), oH p l e R s m args below meth c bc ml y rt Z n0 T' h' (cells + rm.cells) (slots + rm.slots) false Jc → Q' v h' → oG p e below s n0 kc ks J Q (T'.setTop (mkF m pc' L (v.toList ++ S)))) : oG p e below s n0 kc ks J Q (T.setTop (mkF m pc L St)) := by
  obtain ⟨vm0, k0, locs, X, eT, N, hx, hby, hml, hZ, hown, hnm, hret, hlk, hn, hS, hk, hB, hI⟩ := H
  subst hp
  subst hst
  obtain ⟨cq, kq, qa, qb, qc⟩ := isOf (s := s.setVm vm0) hZ eT E
  obtain ⟨v, _, ⟨T', L1, k1, n1⟩, -, X', hS', hgr, ⟨Lc, hQ, l', y', z'⟩, st⟩ := X.virtualBackS hx (y := yc) (z := zc) hown (mvT hZ wl) (mvT hZ wd) (hnf hZ) (mvT hZ wsel) (mvT hZ ws) hy (o_back (W := (S.map fun v => v.category).sum) con hZ (hIc _ hI) hstc wc wz hf hlo) qa qc (g := mkF m pc L (argsL.reverse ++ .ref a :: S)) rfl (by rw [hml]; exact hsz) (Steps.refl _) (argsL := argsL) (rest := S) hlen rfl (by show 2 * 0 + _ ≤ _; omega) (hb hby hd) (fun _ _ => ⟨rfl, eT, hc, hs⟩)
  dsimp only [Pt.U, Pt.locs, Pt.cells, Pt.slots] at X' l' y' z' st hQ hS' hgr
  subst l' y' z'
  exact oG.go (fun _ hr => st.trans hr) (k _ _ _ ⟨T'.vm, T'.heap.size, _, X', rfl, Fr.app N hQ.2.1, hx, hby, hml, State.Warmed39.trans (t := s.setVm vm0) hZ hS'.1, (by rw [hS'.1.alike.findClass]; exact hown), hnm, hret, hlk, hn, hS.trans hS' (Nat.le_trans (by rw [eT]; exact hk) hgr), Nat.le_refl _, (fun q => (nomatch q)), hQ.2.2⟩ hQ.1)
theorem o_ldcS (H : oH p l e R s m args below meth c bc ml y rt Z n0 T h cells slots b I) {i n : Nat} {text : String} (w : (Jvm.Cond.stringLink y.cls i text).before a0 Z = true) (wS : ∀ a ∈ Bundle.stringAtoms, a.before a0 Z = true) (hd : decode bc pc = .ok (.ldc i, 2)) (hp : pc + 2 = pc') (hn4 : 4 * text.toList.length ≤ n) (hbig : n ≤ 536870912) (hc : cells + 2 ≤ R.cells) (hl : slots + (n + 4) ≤ R.slots)
    (k : ∀ (T' : State) (h' : Heap) (a : Addr), oH p l e R s m args below meth c bc ml y rt Z n0 T' h' (cells + 2) (slots + (n + 4)) false (fun _ => True) → Ext h h' → oG p e below s n0 kc ks J Q (T'.setTop (mkF m pc' L (.ref a :: S)))) : oG p e below s n0 kc ks J Q (T.setTop (mkF m pc L S)) := by
  obtain ⟨vm0, k0, locs, X, eT, N, hx, hby, hml, hZ, hown, hnm, hret, hlk, hn, hS, hk, hB, hI⟩ := H
  subst hp
  obtain ⟨a, T', h', k1, X', e', E, hS', hk', hZ', hown', st⟩ := ldcS X hx hZ hown w wS eT hS hk (g := mkF m pc L S) rfl (hb hby hd) hn4 hbig hc hl
  exact oG.go st (k T' h' a ⟨T'.vm, k1, locs, X', e', N, hx, hby, hml, hZ', hown', hnm, hret, hlk, hn, hS', hk', (fun q => (nomatch q)), trivial⟩ E)
theorem o_ldcSV (H : oH p l e R s m args below meth c bc ml y rt Z n0 T h cells slots b I) {i n : Nat} {text : String} (hbt : b = true) (hib : ∀ vm, I vm → IB Z vm []) (w : (Jvm.Cond.stringLink y.cls i text).before a0 Z = true) (wS : ∀ a ∈ Bundle.stringAtoms, a.before a0 Z = true) (hh : Jvm.Lit.constHeld Z y.cls i) (hcw : Jvm.Lit.compactW.before a0 Z = true) {vs : List Value} {z : Int32} (ht : (∀ c ∈ text.toList, c.toNat < 256) ∧ text.toList.map (fun c => Value.int (Jvm.Lit.byteI c.toNat.toUInt16)) = vs) (hz : ¬ z < 0) (hl0 : z.toNatClampNeg = vs.length)
    (hd : decode bc pc = .ok (.ldc i, 2)) (hp : pc + 2 = pc') (hn4 : 4 * text.toList.length ≤ n) (hbig : n ≤ 536870912) (hc : cells + 2 ≤ R.cells) (hl : slots + (n + 4) ≤ R.slots)
    (k : ∀ (T' : State) (h' : Heap) (a bv : Addr), oH p l e R s m args below meth c bc ml y rt Z n0 T' h' (cells + 2) (slots + (n + 4)) false (fun vm => Lit (Z.setVm vm) y.cls i a) → Ext h h' → Exa Z h' a "java/lang/String" → Fld Z h' a "java/lang/String" "coder" "B" (.int 0) → Fld Z h' a "java/lang/String" "value" "[B" (.ref bv) → oG p e below s n0 kc ks J Q (T'.setTop (mkF m pc' L (.ref a :: S)))) : oG p e below s n0 kc ks J Q (T.setTop (mkF m pc L S)) := by
  obtain ⟨vm0, k0, locs, X, eT, N, hx, hby, hml, hZ, hown, hnm, hret, hlk, hn, hS, hk, hB, hI⟩ := H
  subst hp
  obtain ⟨hE, hF⟩ := hB hbt
  obtain ⟨a, T', h', k1, bv, kk, X', e', E, hS', hk', hZ', hown', x1, x2, x3, x4, x5, x6, x7, x8, st⟩ := ldcSVL X hx hZ hown w wS eT hS hk hF hE.2 (hib _ hI) (by simp) hh hcw ht hz hl0 (g := mkF m pc L S) rfl (hb hby hd) hn4 hbig hc hl
  exact oG.go st (k T' h' a bv ⟨T'.vm, k1, locs, X', e', N, hx, hby, hml, hZ', hown', hnm, hret, hlk, hn, hS', hk', (fun q => (nomatch q)), x8⟩ E x1 x2 x3)
theorem o_ldcA (H : oH p l e R s m args below meth c bc ml y rt Z n0 T h cells slots b I) {i : Nat} {text : String} {a : Addr} (w : (Jvm.Cond.stringLink y.cls i text).before a0 Z = true) (hL : ∀ vm, I vm → Lit (Z.setVm vm) y.cls i a) (hd : decode bc pc = .ok (.ldc i, 2)) (hp : pc + 2 = pc') (k : oG p e below s n0 kc ks J Q (T.setTop (mkF m pc' L (.ref a :: S)))) : oG p e below s n0 kc ks J Q (T.setTop (mkF m pc L S)) := by
  obtain ⟨vm0, k0, locs, X, eT, N, hx, hby, hml, hZ, hown, hnm, hret, hlk, hn, hS, hk, hB, hI⟩ := H
  subst hp
  exact oG.go (ldcAgain X hx hZ hown w (a := a) (hL _ hI) (g := mkF m pc L S) rfl (hb hby hd)) k
theorem o_nf {yc : MethodName} {K : String} (w : (Jvm.Cond.selects K yc yc).before a0 Z = true) : ∀ {s' : State}, Z.Warmed39 s'.vm → NotFace s' yc := fun {s'} hZ => notFace_of_selects (args := #[]) (mvT hZ w)
theorem n_lt (x z : Int32) : x < z ↔ x.toInt < z.toInt := Int32.lt_iff_toInt_lt
theorem n_eq (x z : Int32) : x = z ↔ x.toInt = z.toInt := Int32.toInt_inj.symm
theorem n_ltJ (x z : Int64) : x < z ↔ x.toInt < z.toInt := Int64.lt_iff_toInt_lt
theorem n_eqJ (x z : Int64) : x = z ↔ x.toInt = z.toInt := Int64.toInt_inj.symm
theorem n_and (x z : Int32) (h : 0 ≤ z.toInt) : 0 ≤ (x &&& z).toInt ∧ (x &&& z).toInt ≤ z.toInt := by
  have q : (x &&& z).toBitVec.toNat = x.toBitVec.toNat &&& z.toBitVec.toNat := by show (x.toBitVec &&& z.toBitVec).toNat = _; rw [BitVec.toNat_and]
  have o : x.toBitVec.toNat &&& z.toBitVec.toNat ≤ z.toBitVec.toNat := Nat.and_le_right
  have lm := z.toBitVec.isLt
  change 0 ≤ z.toBitVec.toInt at h
  show 0 ≤ (x &&& z).toBitVec.toInt ∧ (x &&& z).toBitVec.toInt ≤ z.toBitVec.toInt
  rw [BitVec.toInt_eq_toNat_cond] at h
  simp only [BitVec.toInt_eq_toNat_cond, q]
  split at h <;> (repeat' split) <;> omega
theorem n_andJ (x z : Int64) (h : 0 ≤ z.toInt) : 0 ≤ (x &&& z).toInt ∧ (x &&& z).toInt ≤ z.toInt := by
  have q : (x &&& z).toBitVec.toNat = x.toBitVec.toNat &&& z.toBitVec.toNat := by show (x.toBitVec &&& z.toBitVec).toNat = _; rw [BitVec.toNat_and]
  have o : x.toBitVec.toNat &&& z.toBitVec.toNat ≤ z.toBitVec.toNat := Nat.and_le_right
  have lm := z.toBitVec.isLt
  change 0 ≤ z.toBitVec.toInt at h
  show 0 ≤ (x &&& z).toBitVec.toInt ∧ (x &&& z).toBitVec.toInt ≤ z.toBitVec.toInt
  rw [BitVec.toInt_eq_toNat_cond] at h
  simp only [BitVec.toInt_eq_toNat_cond, q]
  split at h <;> (repeat' split) <;> omega
theorem n_rem (x z : Int32) (d : Int) (hd : 0 < d) (hz : z.toInt = d) (hx : 0 ≤ x.toInt) : (x % z).toInt = x.toInt % d := by
  rw [Int32.toInt_mod, hz, Int.tmod_eq_emod_of_nonneg hx]
theorem n_nat (x : Int32) (n : Nat) (h0 : 0 ≤ x.toInt) (h1 : x.toInt < n) : ∃ i : Fin n, x = Int32.ofNat i.1 := by
  refine ⟨⟨x.toInt.toNat, by omega⟩, ?_⟩
  rw [n_eq]
  have := Int32.toInt_lt x
  have e : (Int32.ofNat x.toInt.toNat).toInt = x.toInt.toNat := Int32.toInt_ofNat_of_lt (by omega)
  show x.toInt = (Int32.ofNat x.toInt.toNat).toInt
  rw [e]; omega
end Own
theorem w0 {Z : State} {a0 : Array Value} (hw : ∀ d ∈ tables_1, d.before a0 Z = true) : (Jvm.Cond.constant "com/example/brisk_lock/brisklock/HoldCountOneMorePinLaw" (9 : Nat) (2147483647 : Int32)).before a0 Z = true := hw _ (List.mem_of_getElem? (i := 0) rfl)
theorem w1 {Z : State} {a0 : Array Value} (hw : ∀ d ∈ tables_1, d.before a0 Z = true) : (Jvm.Cond.methodLink "com/example/brisk_lock/brisklock/HoldCountOneMorePinLaw" (15 : Nat) ({ cls := "java/lang/String", name := "valueOf", desc := "(C)Ljava/lang/String;" } : Jvm.MethodName)).before a0 Z = true := hw _ (List.mem_of_getElem? (i := 1) rfl)
theorem w2 {Z : State} {a0 : Array Value} (hw : ∀ d ∈ tables_1, d.before a0 Z = true) : (Jvm.Cond.static ({ cls := "java/lang/String", name := "valueOf", desc := "(C)Ljava/lang/String;" } : Jvm.MethodName)).before a0 Z = true := hw _ (List.mem_of_getElem? (i := 2) rfl)
theorem w3 {Z : State} {a0 : Array Value} (hw : ∀ d ∈ tables_1, d.before a0 Z = true) : (Jvm.Cond.initialized "java/lang/String").before a0 Z = true := hw _ (List.mem_of_getElem? (i := 3) rfl)
theorem w4 {Z : State} {a0 : Array Value} (hw : ∀ d ∈ tables_1, d.before a0 Z = true) : (Jvm.Cond.code ({ cls := "java/lang/String", name := "valueOf", desc := "(C)Ljava/lang/String;" } : Jvm.MethodName) jdk_42_method_139_code (1 : Nat) (Option.some (Jvm.ClassFile.FieldType.object "java/lang/String"))).before a0 Z = true := hw _ (List.mem_of_getElem? (i := 4) rfl)
theorem w5 {Z : State} {a0 : Array Value} (hw : ∀ d ∈ tables_1, d.before a0 Z = true) : (Jvm.Cond.fieldLink "java/lang/String" (38 : Nat) "java/lang/String" "COMPACT_STRINGS" "Z").before a0 Z = true := hw _ (List.mem_of_getElem? (i := 5) rfl)
theorem w6 {Z : State} {a0 : Array Value} (hw : ∀ d ∈ tables_1, d.before a0 Z = true) : (Jvm.Cond.methodLink "java/lang/String" (1015 : Nat) ({ cls := "java/lang/StringLatin1", name := "canEncode", desc := "(C)Z" } : Jvm.MethodName)).before a0 Z = true := hw _ (List.mem_of_getElem? (i := 6) rfl)
theorem w7 {Z : State} {a0 : Array Value} (hw : ∀ d ∈ tables_1, d.before a0 Z = true) : (Jvm.Cond.static ({ cls := "java/lang/StringLatin1", name := "canEncode", desc := "(C)Z" } : Jvm.MethodName)).before a0 Z = true := hw _ (List.mem_of_getElem? (i := 7) rfl)
theorem w8 {Z : State} {a0 : Array Value} (hw : ∀ d ∈ tables_1, d.before a0 Z = true) : (Jvm.Cond.initialized "java/lang/StringLatin1").before a0 Z = true := hw _ (List.mem_of_getElem? (i := 8) rfl)
theorem w9 {Z : State} {a0 : Array Value} (hw : ∀ d ∈ tables_1, d.before a0 Z = true) : (Jvm.Cond.code ({ cls := "java/lang/StringLatin1", name := "canEncode", desc := "(C)Z" } : Jvm.MethodName) jdk_43_method_3_code (1 : Nat) (Option.some Jvm.ClassFile.FieldType.boolean)).before a0 Z = true := hw _ (List.mem_of_getElem? (i := 9) rfl)
theorem w10 {Z : State} {a0 : Array Value} (hw : ∀ d ∈ tables_1, d.before a0 Z = true) : (Jvm.Cond.classLink "java/lang/String" (10 : Nat) "java/lang/String").before a0 Z = true := hw _ (List.mem_of_getElem? (i := 10) rfl)
theorem w11 {Z : State} {a0 : Array Value} (hw : ∀ d ∈ tables_1, d.before a0 Z = true) : (Jvm.Cond.instantiable "java/lang/String" (4 : Nat)).before a0 Z = true := hw _ (List.mem_of_getElem? (i := 11) rfl)
theorem w12 {Z : State} {a0 : Array Value} (hw : ∀ d ∈ tables_1, d.before a0 Z = true) : (Jvm.Cond.methodLink "java/lang/String" (1018 : Nat) ({ cls := "java/lang/StringLatin1", name := "toBytes", desc := "(C)[B" } : Jvm.MethodName)).before a0 Z = true := hw _ (List.mem_of_getElem? (i := 12) rfl)
theorem w13 {Z : State} {a0 : Array Value} (hw : ∀ d ∈ tables_1, d.before a0 Z = true) : (Jvm.Cond.static ({ cls := "java/lang/StringLatin1", name := "toBytes", desc := "(C)[B" } : Jvm.MethodName)).before a0 Z = true := hw _ (List.mem_of_getElem? (i := 13) rfl)
theorem w14 {Z : State} {a0 : Array Value} (hw : ∀ d ∈ tables_1, d.before a0 Z = true) : (Jvm.Cond.code ({ cls := "java/lang/StringLatin1", name := "toBytes", desc := "(C)[B" } : Jvm.MethodName) jdk_43_method_46_code (1 : Nat) (Option.some (Jvm.ClassFile.FieldType.array Jvm.ClassFile.FieldType.byte))).before a0 Z = true := hw _ (List.mem_of_getElem? (i := 14) rfl)
theorem w15 {Z : State} {a0 : Array Value} (hw : ∀ d ∈ tables_1, d.before a0 Z = true) : (Jvm.Cond.arrayClass Jvm.ClassFile.FieldType.byte).before a0 Z = true := hw _ (List.mem_of_getElem? (i := 15) rfl)
theorem w16 {Z : State} {a0 : Array Value} (hw : ∀ d ∈ tables_1, d.before a0 Z = true) : (Jvm.Cond.methodLink "java/lang/String" (209 : Nat) ({ cls := "java/lang/String", name := "<init>", desc := "([BB)V" } : Jvm.MethodName)).before a0 Z = true := hw _ (List.mem_of_getElem? (i := 16) rfl)
theorem w17 {Z : State} {a0 : Array Value} (hw : ∀ d ∈ tables_1, d.before a0 Z = true) : (Jvm.Cond.instanceMethod ({ cls := "java/lang/String", name := "<init>", desc := "([BB)V" } : Jvm.MethodName)).before a0 Z = true := hw _ (List.mem_of_getElem? (i := 17) rfl)
theorem w18 {Z : State} {a0 : Array Value} (hw : ∀ d ∈ tables_1, d.before a0 Z = true) : (Jvm.Cond.castable "java/lang/String" "java/lang/String").before a0 Z = true := hw _ (List.mem_of_getElem? (i := 18) rfl)
theorem w19 {Z : State} {a0 : Array Value} (hw : ∀ d ∈ tables_1, d.before a0 Z = true) : (Jvm.Cond.code ({ cls := "java/lang/String", name := "<init>", desc := "([BB)V" } : Jvm.MethodName) jdk_42_method_151_code (3 : Nat) (Option.none : Option Jvm.ClassFile.FieldType)).before a0 Z = true := hw _ (List.mem_of_getElem? (i := 19) rfl)
theorem w20 {Z : State} {a0 : Array Value} (hw : ∀ d ∈ tables_1, d.before a0 Z = true) : (Jvm.Cond.methodLink "java/lang/String" (1 : Nat) ({ cls := "java/lang/Object", name := "<init>", desc := "()V" } : Jvm.MethodName)).before a0 Z = true := hw _ (List.mem_of_getElem? (i := 20) rfl)
theorem w21 {Z : State} {a0 : Array Value} (hw : ∀ d ∈ tables_1, d.before a0 Z = true) : (Jvm.Cond.instanceMethod ({ cls := "java/lang/Object", name := "<init>", desc := "()V" } : Jvm.MethodName)).before a0 Z = true := hw _ (List.mem_of_getElem? (i := 21) rfl)
theorem w22 {Z : State} {a0 : Array Value} (hw : ∀ d ∈ tables_1, d.before a0 Z = true) : (Jvm.Cond.code ({ cls := "java/lang/Object", name := "<init>", desc := "()V" } : Jvm.MethodName) object_method_1_code (1 : Nat) (Option.none : Option Jvm.ClassFile.FieldType)).before a0 Z = true := hw _ (List.mem_of_getElem? (i := 22) rfl)
theorem w23 {Z : State} {a0 : Array Value} (hw : ∀ d ∈ tables_1, d.before a0 Z = true) : (Jvm.Cond.fieldLink "java/lang/String" (9 : Nat) "java/lang/String" "value" "[B").before a0 Z = true := hw _ (List.mem_of_getElem? (i := 23) rfl)
theorem w24 {Z : State} {a0 : Array Value} (hw : ∀ d ∈ tables_1, d.before a0 Z = true) : (Jvm.Cond.laysFinal "java/lang/String" "java/lang/String" "value" "[B").before a0 Z = true := hw _ (List.mem_of_getElem? (i := 24) rfl)
theorem w25 {Z : State} {a0 : Array Value} (hw : ∀ d ∈ tables_1, d.before a0 Z = true) : (Jvm.Cond.fieldLink "java/lang/String" (15 : Nat) "java/lang/String" "coder" "B").before a0 Z = true := hw _ (List.mem_of_getElem? (i := 25) rfl)
theorem w26 {Z : State} {a0 : Array Value} (hw : ∀ d ∈ tables_1, d.before a0 Z = true) : (Jvm.Cond.laysFinal "java/lang/String" "java/lang/String" "coder" "B").before a0 Z = true := hw _ (List.mem_of_getElem? (i := 26) rfl)
theorem w27 {Z : State} {a0 : Array Value} (hw : ∀ d ∈ tables_1, d.before a0 Z = true) : (Jvm.Cond.methodLink "com/example/brisk_lock/brisklock/HoldCountOneMorePinLaw" (19 : Nat) ({ cls := "com/example/brisk_lock/brisklock/HoldCount", name := "oneMore", desc := "(ILjava/lang/String;)I" } : Jvm.MethodName)).before a0 Z = true := hw _ (List.mem_of_getElem? (i := 27) rfl)
theorem w28 {Z : State} {a0 : Array Value} (hw : ∀ d ∈ tables_1, d.before a0 Z = true) : (Jvm.Cond.static ({ cls := "com/example/brisk_lock/brisklock/HoldCount", name := "oneMore", desc := "(ILjava/lang/String;)I" } : Jvm.MethodName)).before a0 Z = true := hw _ (List.mem_of_getElem? (i := 28) rfl)
theorem w29 {Z : State} {a0 : Array Value} (hw : ∀ d ∈ tables_1, d.before a0 Z = true) : (Jvm.Cond.initialized "com/example/brisk_lock/brisklock/HoldCount").before a0 Z = true := hw _ (List.mem_of_getElem? (i := 29) rfl)
theorem w30 {Z : State} {a0 : Array Value} (hw : ∀ d ∈ tables_1, d.before a0 Z = true) : (Jvm.Cond.code ({ cls := "com/example/brisk_lock/brisklock/HoldCount", name := "oneMore", desc := "(ILjava/lang/String;)I" } : Jvm.MethodName) prog_15_method_2_code (2 : Nat) (Option.some Jvm.ClassFile.FieldType.int)).before a0 Z = true := hw _ (List.mem_of_getElem? (i := 30) rfl)
theorem w31 {Z : State} {a0 : Array Value} (hw : ∀ d ∈ tables_1, d.before a0 Z = true) : (Jvm.Cond.constant "com/example/brisk_lock/brisklock/HoldCount" (15 : Nat) (2147483647 : Int32)).before a0 Z = true := hw _ (List.mem_of_getElem? (i := 31) rfl)
theorem w32 {Z : State} {a0 : Array Value} (hw : ∀ d ∈ tables_1, d.before a0 Z = true) : (Jvm.Cond.classLink "com/example/brisk_lock/brisklock/HoldCountOneMorePinLaw" (10 : Nat) "java/lang/String").before a0 Z = true := hw _ (List.mem_of_getElem? (i := 32) rfl)
theorem w33 {Z : State} {a0 : Array Value} (hw : ∀ d ∈ tables_1, d.before a0 Z = true) : (Jvm.Cond.arrayClass Jvm.ClassFile.FieldType.char).before a0 Z = true := hw _ (List.mem_of_getElem? (i := 33) rfl)
theorem w34 {Z : State} {a0 : Array Value} (hw : ∀ d ∈ tables_1, d.before a0 Z = true) : (Jvm.Cond.methodLink "com/example/brisk_lock/brisklock/HoldCountOneMorePinLaw" (12 : Nat) ({ cls := "java/lang/String", name := "<init>", desc := "([C)V" } : Jvm.MethodName)).before a0 Z = true := hw _ (List.mem_of_getElem? (i := 34) rfl)
theorem w35 {Z : State} {a0 : Array Value} (hw : ∀ d ∈ tables_1, d.before a0 Z = true) : (Jvm.Cond.instanceMethod ({ cls := "java/lang/String", name := "<init>", desc := "([C)V" } : Jvm.MethodName)).before a0 Z = true := hw _ (List.mem_of_getElem? (i := 35) rfl)
theorem w36 {Z : State} {a0 : Array Value} (hw : ∀ d ∈ tables_1, d.before a0 Z = true) : (Jvm.Cond.code ({ cls := "java/lang/String", name := "<init>", desc := "([C)V" } : Jvm.MethodName) jdk_42_method_3_code (2 : Nat) (Option.none : Option Jvm.ClassFile.FieldType)).before a0 Z = true := hw _ (List.mem_of_getElem? (i := 36) rfl)
theorem w37 {Z : State} {a0 : Array Value} (hw : ∀ d ∈ tables_1, d.before a0 Z = true) : (Jvm.Cond.methodLink "java/lang/String" (27 : Nat) ({ cls := "java/lang/String", name := "<init>", desc := "([CIILjava/lang/Void;)V" } : Jvm.MethodName)).before a0 Z = true := hw _ (List.mem_of_getElem? (i := 37) rfl)
theorem w38 {Z : State} {a0 : Array Value} (hw : ∀ d ∈ tables_1, d.before a0 Z = true) : (Jvm.Cond.instanceMethod ({ cls := "java/lang/String", name := "<init>", desc := "([CIILjava/lang/Void;)V" } : Jvm.MethodName)).before a0 Z = true := hw _ (List.mem_of_getElem? (i := 38) rfl)
theorem w39 {Z : State} {a0 : Array Value} (hw : ∀ d ∈ tables_1, d.before a0 Z = true) : (Jvm.Cond.code ({ cls := "java/lang/String", name := "<init>", desc := "([CIILjava/lang/Void;)V" } : Jvm.MethodName) jdk_42_method_149_code (6 : Nat) (Option.none : Option Jvm.ClassFile.FieldType)).before a0 Z = true := hw _ (List.mem_of_getElem? (i := 39) rfl)
theorem w40 {Z : State} {a0 : Array Value} (hw : ∀ d ∈ tables_1, d.before a0 Z = true) : (Jvm.Cond.methodLink "java/lang/String" (177 : Nat) ({ cls := "java/lang/StringUTF16", name := "compress", desc := "([CII)[B" } : Jvm.MethodName)).before a0 Z = true := hw _ (List.mem_of_getElem? (i := 40) rfl)
theorem w41 {Z : State} {a0 : Array Value} (hw : ∀ d ∈ tables_1, d.before a0 Z = true) : (Jvm.Cond.static ({ cls := "java/lang/StringUTF16", name := "compress", desc := "([CII)[B" } : Jvm.MethodName)).before a0 Z = true := hw _ (List.mem_of_getElem? (i := 41) rfl)
theorem w42 {Z : State} {a0 : Array Value} (hw : ∀ d ∈ tables_1, d.before a0 Z = true) : (Jvm.Cond.initialized "java/lang/StringUTF16").before a0 Z = true := hw _ (List.mem_of_getElem? (i := 42) rfl)
theorem w43 {Z : State} {a0 : Array Value} (hw : ∀ d ∈ tables_1, d.before a0 Z = true) : (Jvm.Cond.code ({ cls := "java/lang/StringUTF16", name := "compress", desc := "([CII)[B" } : Jvm.MethodName) jdk_52_method_16_code (6 : Nat) (Option.some (Jvm.ClassFile.FieldType.array Jvm.ClassFile.FieldType.byte))).before a0 Z = true := hw _ (List.mem_of_getElem? (i := 43) rfl)
theorem w44 {Z : State} {a0 : Array Value} (hw : ∀ d ∈ tables_1, d.before a0 Z = true) : (Jvm.Cond.methodLink "java/lang/StringUTF16" (115 : Nat) ({ cls := "java/lang/StringUTF16", name := "compress", desc := "([CI[BII)I" } : Jvm.MethodName)).before a0 Z = true := hw _ (List.mem_of_getElem? (i := 44) rfl)
theorem w45 {Z : State} {a0 : Array Value} (hw : ∀ d ∈ tables_1, d.before a0 Z = true) : (Jvm.Cond.static ({ cls := "java/lang/StringUTF16", name := "compress", desc := "([CI[BII)I" } : Jvm.MethodName)).before a0 Z = true := hw _ (List.mem_of_getElem? (i := 45) rfl)
theorem w46 {Z : State} {a0 : Array Value} (hw : ∀ d ∈ tables_1, d.before a0 Z = true) : (Jvm.Cond.code ({ cls := "java/lang/StringUTF16", name := "compress", desc := "([CI[BII)I" } : Jvm.MethodName) jdk_52_method_21_code (7 : Nat) (Option.some Jvm.ClassFile.FieldType.int)).before a0 Z = true := hw _ (List.mem_of_getElem? (i := 46) rfl)
theorem w47 {Z : State} {a0 : Array Value} (hw : ∀ d ∈ tables_1, d.before a0 Z = true) : (Jvm.Cond.methodLink "java/lang/String" (47 : Nat) ({ cls := "java/lang/StringUTF16", name := "coderFromArrayLen", desc := "([BI)B" } : Jvm.MethodName)).before a0 Z = true := hw _ (List.mem_of_getElem? (i := 47) rfl)
theorem w48 {Z : State} {a0 : Array Value} (hw : ∀ d ∈ tables_1, d.before a0 Z = true) : (Jvm.Cond.static ({ cls := "java/lang/StringUTF16", name := "coderFromArrayLen", desc := "([BI)B" } : Jvm.MethodName)).before a0 Z = true := hw _ (List.mem_of_getElem? (i := 48) rfl)
theorem w49 {Z : State} {a0 : Array Value} (hw : ∀ d ∈ tables_1, d.before a0 Z = true) : (Jvm.Cond.code ({ cls := "java/lang/StringUTF16", name := "coderFromArrayLen", desc := "([BI)B" } : Jvm.MethodName) jdk_52_method_15_code (2 : Nat) (Option.some Jvm.ClassFile.FieldType.byte)).before a0 Z = true := hw _ (List.mem_of_getElem? (i := 49) rfl)
theorem w50 {Z : State} {a0 : Array Value} (hw : ∀ d ∈ tables_1, d.before a0 Z = true) : (Jvm.Cond.stringLink "java/lang/String" (7 : Nat) "").before a0 Z = true := hw _ (List.mem_of_getElem? (i := 50) rfl)
theorem w51 {Z : State} {a0 : Array Value} (hw : ∀ d ∈ tables_1, d.before a0 Z = true) : (Jvm.Cond.soleField "java/lang/String" "value").before a0 Z = true := hw _ (List.mem_of_getElem? (i := 51) rfl)
theorem w52 {Z : State} {a0 : Array Value} (hw : ∀ d ∈ tables_1, d.before a0 Z = true) : (Jvm.Cond.soleField "java/lang/String" "coder").before a0 Z = true := hw _ (List.mem_of_getElem? (i := 52) rfl)
theorem own_wS {Z : State} {a0 : Array Value} (hw : ∀ d ∈ tables_1, d.before a0 Z = true) : ∀ a ∈ Bundle.stringAtoms, a.before a0 Z = true := by
  intro a ha
  simp only [Bundle.stringAtoms, List.mem_cons, List.not_mem_nil, or_false] at ha
  rcases ha with rfl | rfl | rfl | rfl | rfl | rfl | rfl
  · exact (w3 hw)
  · exact (w11 hw)
  · exact (w15 hw)
  · exact (w24 hw)
  · exact (w26 hw)
  · exact (w51 hw)
  · exact (w52 hw)
theorem own_c (a : Int32) : ¬ 255 < (a &&& 255).toUInt32.toUInt16.toUInt32.toInt32 := by
  have h := c_and a 255 (by decide); have h2 := c_i2c (a &&& 255); have e : (255 : Int32).toInt = 255 := rfl
  rw [n_lt]; omega
theorem own_cc (a : Int32) : ¬ 255 < nar .char (a &&& 255).toUInt32.toUInt16.toUInt32.toInt32 := by
  show ¬ 255 < (a &&& 255).toUInt32.toUInt16.toUInt32.toInt32.toUInt32.toUInt16.toUInt32.toInt32
  have h := c_and a 255 (by decide); have h2 := c_i2c (a &&& 255); have h3 := c_i2c (a &&& 255).toUInt32.toUInt16.toUInt32.toInt32; have e : (255 : Int32).toInt = 255 := rfl
  rw [n_lt]; omega
theorem own_t0 {a : Int32} (h : ¬ a = 2147483647) : (a + 1).toInt = a.toInt + 1 := by
  have e : (2147483647 : Int32).toInt = 2147483647 := rfl; have e1 : (1 : Int32).toInt = 1 := rfl
  rw [n_eq, e] at h
  have h1 := Int32.toInt_lt a; have h2 := Int32.le_toInt a
  rw [Int32.toInt_add, e1]; apply Int.bmod_eq_of_le <;> omega
theorem own_t1 {a : Int32} (h : ¬ a = 2147483647) : (a + 1).toInt64 = a.toInt64 + 1 := by
  have q := own_t0 h; have e1 : (1 : Int64).toInt = 1 := rfl; have h1 := Int32.toInt_lt a; have h2 := Int32.le_toInt a
  rw [n_eqJ, Int32.toInt_toInt64, Int64.toInt_add, Int32.toInt_toInt64, e1, q]
  symm; apply Int.bmod_eq_of_le <;> omega
theorem own_t2 {a : Int32} (h : ¬ a = 2147483647) : a < a + 1 := by
  rw [n_lt, own_t0 h]; omega
theorem d2_0 : decode jdk_43_method_3_code 0 = .ok (.iload_n 0, 1) := by decide +kernel
theorem d2_1 : decode jdk_43_method_3_code 1 = .ok (.sipush 255, 3) := by decide +kernel
theorem d2_4 : decode jdk_43_method_3_code 4 = .ok (.if_icmp .gt 7, 3) := by decide +kernel
theorem d2_7 : decode jdk_43_method_3_code 7 = .ok (.iconst 1, 1) := by decide +kernel
theorem d2_8 : decode jdk_43_method_3_code 8 = .ok (.goto 4, 3) := by decide +kernel
theorem d2_12 : decode jdk_43_method_3_code 12 = .ok (.ireturn, 1) := by decide +kernel
theorem pn2 : plainFor (⟨"java/lang/StringLatin1", "canEncode", "(C)Z"⟩ : MethodName) = true := plainFor_of_name (by first | (simp [plainName, overriddenIn]; done) | decide +kernel)
theorem pd2 : parseMethodDescriptor "(C)Z" = some ⟨[.char], some .boolean⟩ := by decide +kernel
set_option maxRecDepth 65536 in
set_option maxHeartbeats 40000000 in
theorem rm2 (l : Launch) (Z : State) (a0 : Array Value) (hw : ∀ d ∈ tables_1, d.before a0 Z = true) (p1 : Int32)  (h0 : Heap) (n0 : Nat) (Z0 : n0 ≤ h0.size) (hp : ¬ 255 < p1) :
    oC l Z n0 (fun _ => True) (fun _ => True) (⟨"java/lang/StringLatin1", "canEncode", "(C)Z"⟩ : MethodName) jdk_43_method_3_code 1 (some .boolean) ({ frames := 0, cells := 0, slots := 0, locals := 0 } : Room) 0 0 #[(.int p1)] h0 (fun v h => v = some (.int 1) ∧ h0 = h) := by
  refine oC.of (b := false) (L := #[.val (.int p1)]) pn2 Z0 (fun q => (nomatch q)) (fun m => by first | (simp [entryFrame, mkF, argsToLocals, Value.category]; done) | rfl) ?_
  intro p e s m below meth c T H
  refine o_iloadN H rfl d2_0 rfl ?_
  refine o_sipush H (255 : Int32) rfl d2_1 rfl ?_
  refine o_icmp_f H d2_4 (XT.ii_gt_f hp) rfl ?_
  refine o_iconst H (1 : Int32) rfl d2_7 rfl ?_
  refine o_goto H d2_8 (pt := 12) (by decide) (by decide) ?_
  exact o_nreturn H .boolean rfl (by simp) d2_12 oSt.tt (fun _ q => q) (by decide) (by decide) ⟨rfl, rfl⟩
theorem d3_0 : decode jdk_43_method_46_code 0 = .ok (.iconst 1, 1) := by decide +kernel
theorem d3_1 : decode jdk_43_method_46_code 1 = .ok (.newarray .byte, 2) := by decide +kernel
theorem d3_3 : decode jdk_43_method_46_code 3 = .ok (.dup, 1) := by decide +kernel
theorem d3_4 : decode jdk_43_method_46_code 4 = .ok (.iconst 0, 1) := by decide +kernel
theorem d3_5 : decode jdk_43_method_46_code 5 = .ok (.iload_n 0, 1) := by decide +kernel
theorem d3_6 : decode jdk_43_method_46_code 6 = .ok (.i2b, 1) := by decide +kernel
theorem d3_7 : decode jdk_43_method_46_code 7 = .ok (.bastore, 1) := by decide +kernel
theorem d3_8 : decode jdk_43_method_46_code 8 = .ok (.areturn, 1) := by decide +kernel
theorem pn3 : plainFor (⟨"java/lang/StringLatin1", "toBytes", "(C)[B"⟩ : MethodName) = true := plainFor_of_name (by first | (simp [plainName, overriddenIn]; done) | decide +kernel)
theorem pd3 : parseMethodDescriptor "(C)[B" = some ⟨[.char], some (.array .byte)⟩ := by decide +kernel
set_option maxRecDepth 65536 in
set_option maxHeartbeats 40000000 in
theorem rm3 (l : Launch) (Z : State) (a0 : Array Value) (hw : ∀ d ∈ tables_1, d.before a0 Z = true) (p1 : Int32)  (h0 : Heap) (n0 : Nat) (Z0 : n0 ≤ h0.size)  :
    oC l Z n0 (fun _ => True) (fun _ => True) (⟨"java/lang/StringLatin1", "toBytes", "(C)[B"⟩ : MethodName) jdk_43_method_46_code 1 (some (.array .byte)) ({ frames := 0, cells := 1, slots := 1, locals := 0 } : Room) 1 1 #[(.int p1)] h0 (fun v h => ∃ r, v = some (.ref r) ∧ Keep h0 h []) := by
  refine oC.of (b := false) (L := #[.val (.int p1)]) pn3 Z0 (fun q => (nomatch q)) (fun m => by first | (simp [entryFrame, mkF, argsToLocals, Value.category]; done) | rfl) ?_
  intro p e s m below meth c T H
  refine o_iconst H (1 : Int32) rfl d3_0 rfl ?_
  refine o_newarr (aty := .byte) H 1 1 (w15 hw) (by decide) (by decide) (by decide) d3_1 rfl (by decide) (by decide) ?_
  intro T1 h1 b1 g1 H1 E1 A1
  have z1 : n0 ≤ b1 := by rw [g1]; exact H.le
  have y1 : h0.size ≤ b1 := by rw [g1]; exact (Keep.refl h0 []).1
  have k2 := (Keep.refl h0 []).ext E1
  have f3 : oA .byte Z h1 b1 [(.int 0)] := A1
  refine o_dup H1 rfl d3_3 rfl ?_
  refine o_iconst H1 (0 : Int32) rfl d3_4 rfl ?_
  refine o_iloadN H1 rfl d3_5 rfl ?_
  refine o_i2b H1 d3_6 rfl ?_
  refine o_bastore H1 0 f3 (by decide) (Nat.le_of_ble_eq_true rfl) z1 d3_7 rfl ?_
  intro T4 h4 H4 W4 A4
  have k5 := k2.wr W4 (Or.inr y1)
  have f6 : oA .byte Z h4 b1 [(.int (nar .byte (p1.toInt8.toInt32)))] := A4
  exact o_areturn H4 rfl rfl rfl rfl d3_8 oSt.tt (fun _ q => q) (by decide) (by decide) ⟨_, rfl, k5⟩
theorem d4_0 : decode jdk_42_method_151_code 0 = .ok (.aload_n 0, 1) := by decide +kernel
theorem d4_1 : decode jdk_42_method_151_code 1 = .ok (.invokespecial 1, 3) := by decide +kernel
theorem d4_4 : decode jdk_42_method_151_code 4 = .ok (.aload_n 0, 1) := by decide +kernel
theorem d4_5 : decode jdk_42_method_151_code 5 = .ok (.aload_n 1, 1) := by decide +kernel
theorem d4_6 : decode jdk_42_method_151_code 6 = .ok (.putfield 9, 3) := by decide +kernel
theorem d4_9 : decode jdk_42_method_151_code 9 = .ok (.aload_n 0, 1) := by decide +kernel
theorem d4_10 : decode jdk_42_method_151_code 10 = .ok (.iload_n 2, 1) := by decide +kernel
theorem d4_11 : decode jdk_42_method_151_code 11 = .ok (.putfield 15, 3) := by decide +kernel
theorem d4_14 : decode jdk_42_method_151_code 14 = .ok (.return_, 1) := by decide +kernel
theorem pn4 : plainFor (⟨"java/lang/String", "<init>", "([BB)V"⟩ : MethodName) = true := plainFor_of_name (by first | (simp [plainName, overriddenIn]; done) | decide +kernel)
theorem pd4 : parseMethodDescriptor "([BB)V" = some ⟨[(.array .byte), .byte], none⟩ := by decide +kernel
set_option maxRecDepth 65536 in
set_option maxHeartbeats 40000000 in
theorem rm4 (l : Launch) (Z : State) (a0 : Array Value) (hw : ∀ d ∈ tables_1, d.before a0 Z = true) (a1 : Addr) (p1 : Addr) (p2 : Int32)  (h0 : Heap) (n0 : Nat) (Z0 : n0 ≤ h0.size) (E_a1 : Exa Z h0 a1 "java/lang/String") (g_a1 : n0 ≤ a1) (F_value_a1 : Fld Z h0 a1 "java/lang/String" "value" "[B" .null) (F_coder_a1 : Fld Z h0 a1 "java/lang/String" "coder" "B" (.int (0 : Int32))) :
    oC l Z n0 (fun _ => True) (fun _ => True) (⟨"java/lang/String", "<init>", "([BB)V"⟩ : MethodName) jdk_42_method_151_code 3 none ({ frames := 1, cells := 0, slots := 0, locals := 12 } : Room) 0 0 #[(.ref a1), (.ref p1), (.int p2)] h0 (fun v h => v = none ∧ Keep h0 h [a1]) := by
  refine oC.of (b := false) (L := #[.val (.ref a1), .val (.ref p1), .val (.int p2)]) pn4 Z0 (fun q => (nomatch q)) (fun m => by first | (simp [entryFrame, mkF, argsToLocals, Value.category]; done) | rfl) ?_
  intro p e s m below meth c T H
  refine o_aloadN H rfl rfl d4_0 rfl ?_
  refine o_initO H (w20 hw) (w21 hw) (w22 hw) d4_1 rfl rfl (by decide) (Nat.le_of_ble_eq_true rfl) ?_
  intro T1 H2
  refine o_aloadN H2 rfl rfl d4_4 rfl ?_
  refine o_aloadN H2 rfl rfl d4_5 rfl ?_
  refine o_putF H2 (host := "") (Or.inl (w23 hw)) F_value_a1 E_a1 (Or.inr ⟨(w24 hw), rfl, rfl⟩) (w11 hw) (ty := (.array .byte)) (by decide) rfl rfl g_a1 d4_6 rfl ?_
  intro T3 h3 H3 W3
  have k4 := (Keep.refl h0 [a1]).wr W3 (Or.inl (by simp))
  have f5 := E_a1.wr W3
  have f6 := F_value_a1.same W3
  have f7 := F_coder_a1.other W3 (Or.inr (slot_ne (Or.inr (w26 hw)) (Or.inr (w24 hw)) (by decide) (t := .byte) (t' := (.array .byte)) (by decide) (by decide)))
  refine o_aloadN H3 rfl rfl d4_9 rfl ?_
  refine o_iloadN H3 rfl d4_10 rfl ?_
  refine o_putFN H3 (w25 hw) f7 f5 (Or.inr ⟨(w26 hw), rfl, rfl⟩) (w11 hw) (ty := .byte) (v' := (.int (nar .byte p2))) (by decide) rfl (fits_nar_byte _) g_a1 d4_11 rfl ?_
  intro T8 h8 H8 W8
  have k9 := k4.wr W8 (Or.inl (by simp))
  have f10 := f5.wr W8
  have f11 := f6.other W8 (Or.inr (slot_ne (Or.inr (w24 hw)) (Or.inr (w26 hw)) (by decide) (t := (.array .byte)) (t' := .byte) (by decide) (by decide)))
  have f12 := f7.same W8
  exact o_return H8 rfl d4_14 oSt.tt (fun _ q => q) (by decide) (by decide) ⟨rfl, k9⟩
theorem d1_0 : decode jdk_42_method_139_code 0 = .ok (.getstatic 38, 3) := by decide +kernel
theorem d1_3 : decode jdk_42_method_139_code 3 = .ok (.ifCond .eq 23, 3) := by decide +kernel
theorem d1_6 : decode jdk_42_method_139_code 6 = .ok (.iload_n 0, 1) := by decide +kernel
theorem d1_7 : decode jdk_42_method_139_code 7 = .ok (.invokestatic 1015, 3) := by decide +kernel
theorem d1_10 : decode jdk_42_method_139_code 10 = .ok (.ifCond .eq 16, 3) := by decide +kernel
theorem d1_13 : decode jdk_42_method_139_code 13 = .ok (.new 10, 3) := by decide +kernel
theorem d1_16 : decode jdk_42_method_139_code 16 = .ok (.dup, 1) := by decide +kernel
theorem d1_17 : decode jdk_42_method_139_code 17 = .ok (.iload_n 0, 1) := by decide +kernel
theorem d1_18 : decode jdk_42_method_139_code 18 = .ok (.invokestatic 1018, 3) := by decide +kernel
theorem d1_21 : decode jdk_42_method_139_code 21 = .ok (.iconst 0, 1) := by decide +kernel
theorem d1_22 : decode jdk_42_method_139_code 22 = .ok (.invokespecial 209, 3) := by decide +kernel
theorem d1_25 : decode jdk_42_method_139_code 25 = .ok (.areturn, 1) := by decide +kernel
theorem pn1 : plainFor (⟨"java/lang/String", "valueOf", "(C)Ljava/lang/String;"⟩ : MethodName) = true := plainFor_of_name (by first | (simp [plainName, overriddenIn]; done) | decide +kernel)
theorem pd1 : parseMethodDescriptor "(C)Ljava/lang/String;" = some ⟨[.char], some (.object "java/lang/String")⟩ := by decide +kernel
set_option maxRecDepth 65536 in
set_option maxHeartbeats 40000000 in
theorem rm1 (l : Launch) (Z : State) (a0 : Array Value) (hw : ∀ d ∈ tables_1, d.before a0 Z = true) (p1 : Int32) (cs : Int32) (h0 : Heap) (n0 : Nat) (Z0 : n0 ≤ h0.size) (S_c : Sta Z h0 "java/lang/String" "COMPACT_STRINGS" "Z" (.int cs)) (hcs : ¬ cs = 0) (hp : ¬ 255 < p1) :
    oC l Z n0 (fun _ => True) (fun _ => True) (⟨"java/lang/String", "valueOf", "(C)Ljava/lang/String;"⟩ : MethodName) jdk_42_method_139_code 1 (some (.object "java/lang/String")) ({ frames := 2, cells := 2, slots := 5, locals := 30 } : Room) 2 5 #[(.int p1)] h0 (fun v h => ∃ r, v = some (.ref r) ∧ Keep h0 h []) := by
  refine oC.of (b := false) (L := #[.val (.int p1)]) pn1 Z0 (fun q => (nomatch q)) (fun m => by first | (simp [entryFrame, mkF, argsToLocals, Value.category]; done) | rfl) ?_
  intro p e s m below meth c T H
  refine o_getS H (host := "") (Or.inl (w5 hw)) S_c d1_0 rfl ?_
  intro T1 H2
  refine o_if_f H2 d1_3 (XT.i0_eq_f hcs) rfl ?_
  refine o_iloadN H2 rfl d1_6 rfl ?_
  refine o_static H2 [(.int p1)] [] (rm2 l Z a0 hw p1 h0 n0 H2.le hp) (w6 hw) (w7 hw) (w8 hw) (w9 hw) (by decide) (lenOf pd2 rfl) rfl rfl (by decide) (Nat.le_of_ble_eq_true rfl) (by decide) (by decide) d1_7 rfl (fun _ q => q) oSt.tt ?_
  intro T3 v3 h3 H3 q3
  obtain ⟨rfl, rfl⟩ := q3
  show oG p e below s n0 _ _ _ _ (T3.setTop (mkF m 10 #[.val (.int p1)] [(.int (1 : Int32))]))
  refine o_if_f H3 d1_10 (by decide) rfl ?_
  refine o_new H3 (w10 hw) (w11 hw) (w3 hw) d1_13 rfl (by decide) (by decide) ?_
  intro T4 h4 b4 g4 H4 E4 A4 D4
  have z4 : n0 ≤ b4 := by rw [g4]; exact H3.le
  have y4 : h0.size ≤ b4 := by rw [g4]; exact (Keep.refl h0 []).1
  have k5 := (Keep.refl h0 []).ext E4
  have f6 : Fld Z h4 b4 "java/lang/String" "value" "[B" .null := D4 (Or.inr (w24 hw)) (ty := (.array .byte)) (by decide)
  have f7 : Fld Z h4 b4 "java/lang/String" "coder" "B" (.int (0 : Int32)) := D4 (Or.inr (w26 hw)) (ty := .byte) (by decide)
  refine o_dup H4 rfl d1_16 rfl ?_
  refine o_iloadN H4 rfl d1_17 rfl ?_
  refine o_static H4 [(.int p1)] [(.ref b4), (.ref b4)] (rm3 l Z a0 hw p1 h4 n0 H4.le) (w12 hw) (w13 hw) (w8 hw) (w14 hw) (by decide) (lenOf pd3 rfl) rfl rfl (by decide) (Nat.le_of_ble_eq_true rfl) (by decide) (by decide) d1_18 rfl (fun _ q => q) oSt.tt ?_
  intro T8 v8 h8 H8 q8
  obtain ⟨r8, rfl, K8⟩ := q8
  have k9 := k5.trans K8 all0
  have f10 := A4.keep K8
  have f11 := f6.keep K8 nin0
  have f12 := f7.keep K8 nin0
  show oG p e below s n0 _ _ _ _ (T8.setTop (mkF m 21 #[.val (.int p1)] [(.ref r8), (.ref b4), (.ref b4)]))
  refine o_iconst H8 (0 : Int32) rfl d1_21 rfl ?_
  refine o_special H8 [(.ref r8), (.int (0 : Int32))] [(.ref b4)] (rm4 l Z a0 hw b4 r8 (0 : Int32) h8 n0 H8.le f10 z4 f11 f12 ) rfl (w16 hw) (w17 hw) (w3 hw) (w19 hw) (by decide) (lenOf pd4 rfl) rfl rfl (by decide) (Nat.le_of_ble_eq_true rfl) (by decide) (by decide) d1_22 rfl (fun _ q => q) oSt.tt ?_
  intro T13 v13 h13 H13 q13
  obtain ⟨rfl, K13⟩ := q13
  have k14 := k9.trans K13 (allS (Or.inr y4) all0)
  have f15 := f10.keep K13
  show oG p e below s n0 _ _ _ _ (T13.setTop (mkF m 25 #[.val (.int p1)] [(.ref b4)]))
  exact o_areturn H13 rfl rfl rfl rfl d1_25 oSt.tt (fun _ q => q) (by decide) (by decide) ⟨_, rfl, k14⟩
theorem d11_0 : decode jdk_52_method_15_code 0 = .ok (.iload_n 1, 1) := by decide +kernel
theorem d11_1 : decode jdk_52_method_15_code 1 = .ok (.aload_n 0, 1) := by decide +kernel
theorem d11_2 : decode jdk_52_method_15_code 2 = .ok (.arraylength, 1) := by decide +kernel
theorem d11_3 : decode jdk_52_method_15_code 3 = .ok (.isub, 1) := by decide +kernel
theorem d11_4 : decode jdk_52_method_15_code 4 = .ok (.bipush 31, 2) := by decide +kernel
theorem d11_6 : decode jdk_52_method_15_code 6 = .ok (.iushr, 1) := by decide +kernel
theorem d11_7 : decode jdk_52_method_15_code 7 = .ok (.i2b, 1) := by decide +kernel
theorem d11_8 : decode jdk_52_method_15_code 8 = .ok (.ireturn, 1) := by decide +kernel
theorem pn11 : plainFor (⟨"java/lang/StringUTF16", "coderFromArrayLen", "([BI)B"⟩ : MethodName) = true := plainFor_of_name (by first | (simp [plainName, overriddenIn]; done) | decide +kernel)
theorem pd11 : parseMethodDescriptor "([BI)B" = some ⟨[(.array .byte), .int], some .byte⟩ := by decide +kernel
set_option maxRecDepth 65536 in
set_option maxHeartbeats 40000000 in
theorem rm11 (l : Launch) (Z : State) (a0 : Array Value) (hw : ∀ d ∈ tables_1, d.before a0 Z = true) (a1 : Addr) (p1 : Int32) (vs : List Value) (h0 : Heap) (n0 : Nat) (Z0 : n0 ≤ h0.size) (AV1 : oA .byte Z h0 a1 vs) :
    oC l Z n0 (fun _ => True) (fun _ => True) (⟨"java/lang/StringUTF16", "coderFromArrayLen", "([BI)B"⟩ : MethodName) jdk_52_method_15_code 2 (some .byte) ({ frames := 0, cells := 0, slots := 0, locals := 0 } : Room) 0 0 #[(.ref a1), (.int p1)] h0 (fun v h => ∃ c, v = some (.int c) ∧ h0 = h) := by
  refine oC.of (b := false) (L := #[.val (.ref a1), .val (.int p1)]) pn11 Z0 (fun q => (nomatch q)) (fun m => by first | (simp [entryFrame, mkF, argsToLocals, Value.category]; done) | rfl) ?_
  intro p e s m below meth c T H
  refine o_iloadN H rfl d11_0 rfl ?_
  refine o_aloadN H rfl rfl d11_1 rfl ?_
  refine o_arraylength H (vs.length.toInt32) AV1 rfl d11_2 rfl ?_
  refine o_isub H d11_3 rfl ?_
  refine o_bipush H (31 : Int32) rfl d11_4 rfl ?_
  refine o_iushr H d11_6 rfl ?_
  refine o_i2b H d11_7 rfl ?_
  exact o_nreturn H .byte rfl (by simp) d11_8 oSt.tt (fun _ q => q) (by decide) (by decide) ⟨_, rfl, rfl⟩
theorem d10_0 : decode jdk_52_method_21_code 0 = .ok (.iconst 0, 1) := by decide +kernel
theorem d10_1 : decode jdk_52_method_21_code 1 = .ok (.istore 5, 2) := by decide +kernel
theorem d10_3 : decode jdk_52_method_21_code 3 = .ok (.iload 5, 2) := by decide +kernel
theorem d10_5 : decode jdk_52_method_21_code 5 = .ok (.iload 4, 2) := by decide +kernel
theorem d10_7 : decode jdk_52_method_21_code 7 = .ok (.if_icmp .ge 37, 3) := by decide +kernel
theorem d10_10 : decode jdk_52_method_21_code 10 = .ok (.aload_n 0, 1) := by decide +kernel
theorem d10_11 : decode jdk_52_method_21_code 11 = .ok (.iload_n 1, 1) := by decide +kernel
theorem d10_12 : decode jdk_52_method_21_code 12 = .ok (.caload, 1) := by decide +kernel
theorem d10_13 : decode jdk_52_method_21_code 13 = .ok (.istore 6, 2) := by decide +kernel
theorem d10_15 : decode jdk_52_method_21_code 15 = .ok (.iload 6, 2) := by decide +kernel
theorem d10_17 : decode jdk_52_method_21_code 17 = .ok (.sipush 255, 3) := by decide +kernel
theorem d10_20 : decode jdk_52_method_21_code 20 = .ok (.if_icmp .le 6, 3) := by decide +kernel
theorem d10_26 : decode jdk_52_method_21_code 26 = .ok (.aload_n 2, 1) := by decide +kernel
theorem d10_27 : decode jdk_52_method_21_code 27 = .ok (.iload_n 3, 1) := by decide +kernel
theorem d10_28 : decode jdk_52_method_21_code 28 = .ok (.iload 6, 2) := by decide +kernel
theorem d10_30 : decode jdk_52_method_21_code 30 = .ok (.i2b, 1) := by decide +kernel
theorem d10_31 : decode jdk_52_method_21_code 31 = .ok (.bastore, 1) := by decide +kernel
theorem d10_32 : decode jdk_52_method_21_code 32 = .ok (.iinc 1 1, 3) := by decide +kernel
theorem d10_35 : decode jdk_52_method_21_code 35 = .ok (.iinc 3 1, 3) := by decide +kernel
theorem d10_38 : decode jdk_52_method_21_code 38 = .ok (.iinc 5 1, 3) := by decide +kernel
theorem d10_41 : decode jdk_52_method_21_code 41 = .ok (.goto (-38), 3) := by decide +kernel
theorem d10_44 : decode jdk_52_method_21_code 44 = .ok (.iload 4, 2) := by decide +kernel
theorem d10_46 : decode jdk_52_method_21_code 46 = .ok (.ireturn, 1) := by decide +kernel
theorem pn10 : plainFor (⟨"java/lang/StringUTF16", "compress", "([CI[BII)I"⟩ : MethodName) = true := plainFor_of_name (by first | (simp [plainName, overriddenIn]; done) | decide +kernel)
theorem pd10 : parseMethodDescriptor "([CI[BII)I" = some ⟨[(.array .char), .int, (.array .byte), .int, .int], some .int⟩ := by decide +kernel
set_option maxRecDepth 65536 in
set_option maxHeartbeats 40000000 in
theorem rm10 (l : Launch) (Z : State) (a0 : Array Value) (hw : ∀ d ∈ tables_1, d.before a0 Z = true) (a1 : Addr) (a2 : Addr) (x1 x2 : Int32) (h0 : Heap) (n0 : Nat) (Z0 : n0 ≤ h0.size) (AV1 : oA .char Z h0 a1 [(.int x1), (.int x2)]) (AV2 : oA .byte Z h0 a2 [(.int 0), (.int 0)]) (g_a2 : n0 ≤ a2) (n12 : a1 ≠ a2) (hx1 : ¬ 255 < x1) (hx2 : ¬ 255 < x2) :
    oC l Z n0 (fun _ => True) (fun _ => True) (⟨"java/lang/StringUTF16", "compress", "([CI[BII)I"⟩ : MethodName) jdk_52_method_21_code 7 (some .int) ({ frames := 0, cells := 0, slots := 0, locals := 0 } : Room) 0 0 #[(.ref a1), (.int (0 : Int32)), (.ref a2), (.int (0 : Int32)), (.int (2 : Int32))] h0 (fun v h => v = some (.int 2) ∧ Keep h0 h [a2] ∧ ∃ vs, oA .byte Z h a2 vs) := by
  refine oC.of (b := false) (L := #[.val (.ref a1), .val (.int (0 : Int32)), .val (.ref a2), .val (.int (0 : Int32)), .val (.int (2 : Int32)), .unset, .unset]) pn10 Z0 (fun q => (nomatch q)) (fun m => by first | (simp [entryFrame, mkF, argsToLocals, Value.category]; done) | rfl) ?_
  intro p e s m below meth c T H
  refine o_iconst H (0 : Int32) rfl d10_0 rfl ?_
  refine o_istore H (L' := #[.val (.ref a1), .val (.int (0 : Int32)), .val (.ref a2), .val (.int (0 : Int32)), .val (.int (2 : Int32)), .val (.int (0 : Int32)), .unset]) rfl d10_1 rfl ?_
  refine o_iload H rfl d10_3 rfl ?_
  refine o_iload H rfl d10_5 rfl ?_
  refine o_icmp_f H d10_7 (by decide) rfl ?_
  refine o_aloadN H rfl rfl d10_10 rfl ?_
  refine o_iloadN H rfl d10_11 rfl ?_
  refine o_caload H 0 (.int x1) AV1 (by decide) rfl d10_12 rfl ?_
  refine o_istore H (L' := #[.val (.ref a1), .val (.int (0 : Int32)), .val (.ref a2), .val (.int (0 : Int32)), .val (.int (2 : Int32)), .val (.int (0 : Int32)), .val (.int x1)]) rfl d10_13 rfl ?_
  refine o_iload H rfl d10_15 rfl ?_
  refine o_sipush H (255 : Int32) rfl d10_17 rfl ?_
  refine o_icmp_t H d10_20 (XT.ii_le_t hx1) (pt := 26) (by decide) (by decide) ?_
  refine o_aloadN H rfl rfl d10_26 rfl ?_
  refine o_iloadN H rfl d10_27 rfl ?_
  refine o_iload H rfl d10_28 rfl ?_
  refine o_i2b H d10_30 rfl ?_
  refine o_bastore H 0 AV2 (by decide) (Nat.le_of_ble_eq_true rfl) g_a2 d10_31 rfl ?_
  intro T1 h1 H1 W1 A1
  have k2 := (Keep.refl h0 [a2]).wr W1 (Or.inl (by simp))
  have f3 := AV1.other W1 n12
  have f4 : oA .byte Z h1 a2 [(.int (nar .byte (x1.toInt8.toInt32))), (.int 0)] := A1
  refine o_iinc H1 (1 : Int32) (1 : Int32) rfl (by decide) rfl (L' := #[.val (.ref a1), .val (.int (1 : Int32)), .val (.ref a2), .val (.int (0 : Int32)), .val (.int (2 : Int32)), .val (.int (0 : Int32)), .val (.int x1)]) rfl d10_32 rfl ?_
  refine o_iinc H1 (1 : Int32) (1 : Int32) rfl (by decide) rfl (L' := #[.val (.ref a1), .val (.int (1 : Int32)), .val (.ref a2), .val (.int (1 : Int32)), .val (.int (2 : Int32)), .val (.int (0 : Int32)), .val (.int x1)]) rfl d10_35 rfl ?_
  refine o_iinc H1 (1 : Int32) (1 : Int32) rfl (by decide) rfl (L' := #[.val (.ref a1), .val (.int (1 : Int32)), .val (.ref a2), .val (.int (1 : Int32)), .val (.int (2 : Int32)), .val (.int (1 : Int32)), .val (.int x1)]) rfl d10_38 rfl ?_
  refine o_goto H1 d10_41 (pt := 3) (by decide) (by decide) ?_
  refine o_iload H1 rfl d10_3 rfl ?_
  refine o_iload H1 rfl d10_5 rfl ?_
  refine o_icmp_f H1 d10_7 (by decide) rfl ?_
  refine o_aloadN H1 rfl rfl d10_10 rfl ?_
  refine o_iloadN H1 rfl d10_11 rfl ?_
  refine o_caload H1 1 (.int x2) f3 (by decide) rfl d10_12 rfl ?_
  refine o_istore H1 (L' := #[.val (.ref a1), .val (.int (1 : Int32)), .val (.ref a2), .val (.int (1 : Int32)), .val (.int (2 : Int32)), .val (.int (1 : Int32)), .val (.int x2)]) rfl d10_13 rfl ?_
  refine o_iload H1 rfl d10_15 rfl ?_
  refine o_sipush H1 (255 : Int32) rfl d10_17 rfl ?_
  refine o_icmp_t H1 d10_20 (XT.ii_le_t hx2) (pt := 26) (by decide) (by decide) ?_
  refine o_aloadN H1 rfl rfl d10_26 rfl ?_
  refine o_iloadN H1 rfl d10_27 rfl ?_
  refine o_iload H1 rfl d10_28 rfl ?_
  refine o_i2b H1 d10_30 rfl ?_
  refine o_bastore H1 1 f4 (by decide) (Nat.le_of_ble_eq_true rfl) g_a2 d10_31 rfl ?_
  intro T5 h5 H5 W5 A5
  have k6 := k2.wr W5 (Or.inl (by simp))
  have f7 := f3.other W5 n12
  have f8 : oA .byte Z h5 a2 [(.int (nar .byte (x1.toInt8.toInt32))), (.int (nar .byte (x2.toInt8.toInt32)))] := A5
  refine o_iinc H5 (1 : Int32) (2 : Int32) rfl (by decide) rfl (L' := #[.val (.ref a1), .val (.int (2 : Int32)), .val (.ref a2), .val (.int (1 : Int32)), .val (.int (2 : Int32)), .val (.int (1 : Int32)), .val (.int x2)]) rfl d10_32 rfl ?_
  refine o_iinc H5 (1 : Int32) (2 : Int32) rfl (by decide) rfl (L' := #[.val (.ref a1), .val (.int (2 : Int32)), .val (.ref a2), .val (.int (2 : Int32)), .val (.int (2 : Int32)), .val (.int (1 : Int32)), .val (.int x2)]) rfl d10_35 rfl ?_
  refine o_iinc H5 (1 : Int32) (2 : Int32) rfl (by decide) rfl (L' := #[.val (.ref a1), .val (.int (2 : Int32)), .val (.ref a2), .val (.int (2 : Int32)), .val (.int (2 : Int32)), .val (.int (2 : Int32)), .val (.int x2)]) rfl d10_38 rfl ?_
  refine o_goto H5 d10_41 (pt := 3) (by decide) (by decide) ?_
  refine o_iload H5 rfl d10_3 rfl ?_
  refine o_iload H5 rfl d10_5 rfl ?_
  refine o_icmp_t H5 d10_7 (by decide) (pt := 44) (by decide) (by decide) ?_
  refine o_iload H5 rfl d10_44 rfl ?_
  exact o_ireturn H5 rfl d10_46 oSt.tt (fun _ q => q) (by decide) (by decide) ⟨rfl, k6, _, f8⟩
theorem d9_0 : decode jdk_52_method_16_code 0 = .ok (.iload_n 2, 1) := by decide +kernel
theorem d9_1 : decode jdk_52_method_16_code 1 = .ok (.newarray .byte, 2) := by decide +kernel
theorem d9_3 : decode jdk_52_method_16_code 3 = .ok (.astore_n 3, 1) := by decide +kernel
theorem d9_4 : decode jdk_52_method_16_code 4 = .ok (.aload_n 0, 1) := by decide +kernel
theorem d9_5 : decode jdk_52_method_16_code 5 = .ok (.iload_n 1, 1) := by decide +kernel
theorem d9_6 : decode jdk_52_method_16_code 6 = .ok (.aload_n 3, 1) := by decide +kernel
theorem d9_7 : decode jdk_52_method_16_code 7 = .ok (.iconst 0, 1) := by decide +kernel
theorem d9_8 : decode jdk_52_method_16_code 8 = .ok (.iload_n 2, 1) := by decide +kernel
theorem d9_9 : decode jdk_52_method_16_code 9 = .ok (.invokestatic 115, 3) := by decide +kernel
theorem d9_12 : decode jdk_52_method_16_code 12 = .ok (.istore 4, 2) := by decide +kernel
theorem d9_14 : decode jdk_52_method_16_code 14 = .ok (.iload 4, 2) := by decide +kernel
theorem d9_16 : decode jdk_52_method_16_code 16 = .ok (.iload_n 2, 1) := by decide +kernel
theorem d9_17 : decode jdk_52_method_16_code 17 = .ok (.if_icmp .eq 40, 3) := by decide +kernel
theorem d9_57 : decode jdk_52_method_16_code 57 = .ok (.aload_n 3, 1) := by decide +kernel
theorem d9_58 : decode jdk_52_method_16_code 58 = .ok (.areturn, 1) := by decide +kernel
theorem pn9 : plainFor (⟨"java/lang/StringUTF16", "compress", "([CII)[B"⟩ : MethodName) = true := plainFor_of_name (by first | (simp [plainName, overriddenIn]; done) | decide +kernel)
theorem pd9 : parseMethodDescriptor "([CII)[B" = some ⟨[(.array .char), .int, .int], some (.array .byte)⟩ := by decide +kernel
set_option maxRecDepth 65536 in
set_option maxHeartbeats 40000000 in
theorem rm9 (l : Launch) (Z : State) (a0 : Array Value) (hw : ∀ d ∈ tables_1, d.before a0 Z = true) (a1 : Addr) (x1 x2 : Int32) (h0 : Heap) (n0 : Nat) (Z0 : n0 ≤ h0.size) (AV1 : oA .char Z h0 a1 [(.int x1), (.int x2)]) (hx1 : ¬ 255 < x1) (hx2 : ¬ 255 < x2) :
    oC l Z n0 (fun _ => True) (fun _ => True) (⟨"java/lang/StringUTF16", "compress", "([CII)[B"⟩ : MethodName) jdk_52_method_16_code 6 (some (.array .byte)) ({ frames := 1, cells := 1, slots := 2, locals := 20 } : Room) 1 2 #[(.ref a1), (.int (0 : Int32)), (.int (2 : Int32))] h0 (fun v h => ∃ r, v = some (.ref r) ∧ Keep h0 h [] ∧ ∃ vs, oA .byte Z h r vs) := by
  refine oC.of (b := false) (L := #[.val (.ref a1), .val (.int (0 : Int32)), .val (.int (2 : Int32)), .unset, .unset, .unset]) pn9 Z0 (fun q => (nomatch q)) (fun m => by first | (simp [entryFrame, mkF, argsToLocals, Value.category]; done) | rfl) ?_
  intro p e s m below meth c T H
  refine o_iloadN H rfl d9_0 rfl ?_
  refine o_newarr (aty := .byte) H 2 2 (w15 hw) (by decide) (by decide) (by decide) d9_1 rfl (by decide) (by decide) ?_
  intro T1 h1 b1 g1 H1 E1 A1
  have ne1_a1 : a1 ≠ b1 := by rw [g1]; exact Nat.ne_of_lt (AV1).lt
  have z1 : n0 ≤ b1 := by rw [g1]; exact H.le
  have y1 : h0.size ≤ b1 := by rw [g1]; exact (Keep.refl h0 []).1
  have k2 := (Keep.refl h0 []).ext E1
  have f3 := AV1.ext E1
  have f4 : oA .byte Z h1 b1 [(.int 0), (.int 0)] := A1
  refine o_astoreN H1 (L' := #[.val (.ref a1), .val (.int (0 : Int32)), .val (.int (2 : Int32)), .val (.ref b1), .unset, .unset]) rfl rfl d9_3 rfl ?_
  refine o_aloadN H1 rfl rfl d9_4 rfl ?_
  refine o_iloadN H1 rfl d9_5 rfl ?_
  refine o_aloadN H1 rfl rfl d9_6 rfl ?_
  refine o_iconst H1 (0 : Int32) rfl d9_7 rfl ?_
  refine o_iloadN H1 rfl d9_8 rfl ?_
  refine o_static H1 [(.ref a1), (.int (0 : Int32)), (.ref b1), (.int (0 : Int32)), (.int (2 : Int32))] [] (rm10 l Z a0 hw a1 b1 x1 x2 h1 n0 H1.le f3 f4 z1 ne1_a1 hx1 hx2) (w44 hw) (w45 hw) (w42 hw) (w46 hw) (by decide) (lenOf pd10 rfl) rfl rfl (by decide) (Nat.le_of_ble_eq_true rfl) (by decide) (by decide) d9_9 rfl (fun _ q => q) oSt.tt ?_
  intro T5 v5 h5 H5 q5
  obtain ⟨rfl, K5, vs5, A5⟩ := q5
  have k6 := k2.trans K5 (allS (Or.inr y1) all0)
  have f7 := f3.keep K5 (ninS ne1_a1 nin0)
  show oG p e below s n0 _ _ _ _ (T5.setTop (mkF m 12 #[.val (.ref a1), .val (.int (0 : Int32)), .val (.int (2 : Int32)), .val (.ref b1), .unset, .unset] [(.int (2 : Int32))]))
  refine o_istore H5 (L' := #[.val (.ref a1), .val (.int (0 : Int32)), .val (.int (2 : Int32)), .val (.ref b1), .val (.int (2 : Int32)), .unset]) rfl d9_12 rfl ?_
  refine o_iload H5 rfl d9_14 rfl ?_
  refine o_iloadN H5 rfl d9_16 rfl ?_
  refine o_icmp_t H5 d9_17 (by decide) (pt := 57) (by decide) (by decide) ?_
  refine o_aloadN H5 rfl rfl d9_57 rfl ?_
  exact o_areturn H5 rfl rfl rfl rfl d9_58 oSt.tt (fun _ q => q) (by decide) (by decide) ⟨_, rfl, k6, _, A5⟩
theorem d8_0 : decode jdk_42_method_149_code 0 = .ok (.aload_n 0, 1) := by decide +kernel
theorem d8_1 : decode jdk_42_method_149_code 1 = .ok (.invokespecial 1, 3) := by decide +kernel
theorem d8_4 : decode jdk_42_method_149_code 4 = .ok (.iload_n 3, 1) := by decide +kernel
theorem d8_5 : decode jdk_42_method_149_code 5 = .ok (.ifCond .ne 22, 3) := by decide +kernel
theorem d8_8 : decode jdk_42_method_149_code 8 = .ok (.aload_n 0, 1) := by decide +kernel
theorem d8_9 : decode jdk_42_method_149_code 9 = .ok (.ldc 7, 2) := by decide +kernel
theorem d8_11 : decode jdk_42_method_149_code 11 = .ok (.getfield 9, 3) := by decide +kernel
theorem d8_14 : decode jdk_42_method_149_code 14 = .ok (.putfield 9, 3) := by decide +kernel
theorem d8_17 : decode jdk_42_method_149_code 17 = .ok (.aload_n 0, 1) := by decide +kernel
theorem d8_18 : decode jdk_42_method_149_code 18 = .ok (.ldc 7, 2) := by decide +kernel
theorem d8_20 : decode jdk_42_method_149_code 20 = .ok (.getfield 15, 3) := by decide +kernel
theorem d8_23 : decode jdk_42_method_149_code 23 = .ok (.putfield 15, 3) := by decide +kernel
theorem d8_26 : decode jdk_42_method_149_code 26 = .ok (.return_, 1) := by decide +kernel
theorem d8_27 : decode jdk_42_method_149_code 27 = .ok (.getstatic 38, 3) := by decide +kernel
theorem d8_30 : decode jdk_42_method_149_code 30 = .ok (.ifCond .eq 28, 3) := by decide +kernel
theorem d8_33 : decode jdk_42_method_149_code 33 = .ok (.aload_n 1, 1) := by decide +kernel
theorem d8_34 : decode jdk_42_method_149_code 34 = .ok (.iload_n 2, 1) := by decide +kernel
theorem d8_35 : decode jdk_42_method_149_code 35 = .ok (.iload_n 3, 1) := by decide +kernel
theorem d8_36 : decode jdk_42_method_149_code 36 = .ok (.invokestatic 177, 3) := by decide +kernel
theorem d8_39 : decode jdk_42_method_149_code 39 = .ok (.astore 5, 2) := by decide +kernel
theorem d8_41 : decode jdk_42_method_149_code 41 = .ok (.aload_n 0, 1) := by decide +kernel
theorem d8_42 : decode jdk_42_method_149_code 42 = .ok (.aload 5, 2) := by decide +kernel
theorem d8_44 : decode jdk_42_method_149_code 44 = .ok (.iload_n 3, 1) := by decide +kernel
theorem d8_45 : decode jdk_42_method_149_code 45 = .ok (.invokestatic 47, 3) := by decide +kernel
theorem d8_48 : decode jdk_42_method_149_code 48 = .ok (.putfield 15, 3) := by decide +kernel
theorem d8_51 : decode jdk_42_method_149_code 51 = .ok (.aload_n 0, 1) := by decide +kernel
theorem d8_52 : decode jdk_42_method_149_code 52 = .ok (.aload 5, 2) := by decide +kernel
theorem d8_54 : decode jdk_42_method_149_code 54 = .ok (.putfield 9, 3) := by decide +kernel
theorem d8_57 : decode jdk_42_method_149_code 57 = .ok (.return_, 1) := by decide +kernel
theorem pn8 : plainFor (⟨"java/lang/String", "<init>", "([CIILjava/lang/Void;)V"⟩ : MethodName) = true := plainFor_of_name (by first | (simp [plainName, overriddenIn]; done) | decide +kernel)
theorem pd8 : parseMethodDescriptor "([CIILjava/lang/Void;)V" = some ⟨[(.array .char), .int, .int, (.object "java/lang/Void")], none⟩ := by decide +kernel
set_option maxRecDepth 65536 in
set_option maxHeartbeats 40000000 in
theorem rm8_2 (l : Launch) (Z : State) (a0 : Array Value) (hw : ∀ d ∈ tables_1, d.before a0 Z = true) (a1 : Addr) (p1 : Addr) (x1 x2 cs : Int32) (h0 : Heap) (n0 : Nat) (Z0 : n0 ≤ h0.size) (E_a1 : Exa Z h0 a1 "java/lang/String") (g_a1 : n0 ≤ a1) (F_value_a1 : Fld Z h0 a1 "java/lang/String" "value" "[B" .null) (F_coder_a1 : Fld Z h0 a1 "java/lang/String" "coder" "B" (.int (0 : Int32))) (S_c : Sta Z h0 "java/lang/String" "COMPACT_STRINGS" "Z" (.int cs)) (hcs : ¬ cs = 0) (AV1 : oA .char Z h0 p1 [(.int x1), (.int x2)]) (hx1 : ¬ 255 < x1) (hx2 : ¬ 255 < x2) :
    oC l Z n0 (fun _ => True) (fun _ => True) (⟨"java/lang/String", "<init>", "([CIILjava/lang/Void;)V"⟩ : MethodName) jdk_42_method_149_code 6 none ({ frames := 2, cells := 2, slots := 4, locals := 40 } : Room) 2 4 #[(.ref a1), (.ref p1), (.int (0 : Int32)), (.int (2 : Int32)), .null] h0 (fun v h => v = none ∧ Keep h0 h [a1]) := by
  refine oC.of (b := false) (L := #[.val (.ref a1), .val (.ref p1), .val (.int (0 : Int32)), .val (.int (2 : Int32)), .val .null, .unset]) pn8 Z0 (fun q => (nomatch q)) (fun m => by first | (simp [entryFrame, mkF, argsToLocals, Value.category]; done) | rfl) ?_
  intro p e s m below meth c T H
  refine o_aloadN H rfl rfl d8_0 rfl ?_
  refine o_initO H (w20 hw) (w21 hw) (w22 hw) d8_1 rfl rfl (by decide) (Nat.le_of_ble_eq_true rfl) ?_
  intro T1 H2
  refine o_iloadN H2 rfl d8_4 rfl ?_
  refine o_if_t H2 d8_5 (by decide) (pt := 27) (by decide) (by decide) ?_
  refine o_getS H2 (host := "") (Or.inl (w5 hw)) S_c d8_27 rfl ?_
  intro T3 H4
  refine o_if_f H4 d8_30 (XT.i0_eq_f hcs) rfl ?_
  refine o_aloadN H4 rfl rfl d8_33 rfl ?_
  refine o_iloadN H4 rfl d8_34 rfl ?_
  refine o_iloadN H4 rfl d8_35 rfl ?_
  refine o_static H4 [(.ref p1), (.int (0 : Int32)), (.int (2 : Int32))] [] (rm9 l Z a0 hw p1 x1 x2 h0 n0 H4.le AV1 hx1 hx2) (w40 hw) (w41 hw) (w42 hw) (w43 hw) (by decide) (lenOf pd9 rfl) rfl rfl (by decide) (Nat.le_of_ble_eq_true rfl) (by decide) (by decide) d8_36 rfl (fun _ q => q) oSt.tt ?_
  intro T5 v5 h5 H5 q5
  obtain ⟨r5, rfl, K5, vs5, A5⟩ := q5
  have k6 := (Keep.refl h0 [a1]).trans K5 all0
  have f7 := E_a1.keep K5
  have f8 := F_value_a1.keep K5 nin0
  have f9 := F_coder_a1.keep K5 nin0
  show oG p e below s n0 _ _ _ _ (T5.setTop (mkF m 39 #[.val (.ref a1), .val (.ref p1), .val (.int (0 : Int32)), .val (.int (2 : Int32)), .val .null, .unset] [(.ref r5)]))
  refine o_astore H5 (L' := #[.val (.ref a1), .val (.ref p1), .val (.int (0 : Int32)), .val (.int (2 : Int32)), .val .null, .val (.ref r5)]) rfl rfl d8_39 rfl ?_
  refine o_aloadN H5 rfl rfl d8_41 rfl ?_
  refine o_aload H5 rfl rfl d8_42 rfl ?_
  refine o_iloadN H5 rfl d8_44 rfl ?_
  refine o_static H5 [(.ref r5), (.int (2 : Int32))] [(.ref a1)] (rm11 l Z a0 hw r5 (2 : Int32) vs5 h5 n0 H5.le A5) (w47 hw) (w48 hw) (w42 hw) (w49 hw) (by decide) (lenOf pd11 rfl) rfl rfl (by decide) (Nat.le_of_ble_eq_true rfl) (by decide) (by decide) d8_45 rfl (fun _ q => q) oSt.tt ?_
  intro T10 v10 h10 H10 q10
  obtain ⟨c10, rfl, rfl⟩ := q10
  show oG p e below s n0 _ _ _ _ (T10.setTop (mkF m 48 #[.val (.ref a1), .val (.ref p1), .val (.int (0 : Int32)), .val (.int (2 : Int32)), .val .null, .val (.ref r5)] [(.int c10), (.ref a1)]))
  refine o_putFN H10 (w25 hw) f9 f7 (Or.inr ⟨(w26 hw), rfl, rfl⟩) (w11 hw) (ty := .byte) (v' := (.int (nar .byte c10))) (by decide) rfl (fits_nar_byte _) g_a1 d8_48 rfl ?_
  intro T11 h11 H11 W11
  have k12 := k6.wr W11 (Or.inl (by simp))
  have f13 := f7.wr W11
  have f14 := f8.other W11 (Or.inr (slot_ne (Or.inr (w24 hw)) (Or.inr (w26 hw)) (by decide) (t := (.array .byte)) (t' := .byte) (by decide) (by decide)))
  have f15 := f9.same W11
  refine o_aloadN H11 rfl rfl d8_51 rfl ?_
  refine o_aload H11 rfl rfl d8_52 rfl ?_
  refine o_putF H11 (host := "") (Or.inl (w23 hw)) f14 f13 (Or.inr ⟨(w24 hw), rfl, rfl⟩) (w11 hw) (ty := (.array .byte)) (by decide) rfl rfl g_a1 d8_54 rfl ?_
  intro T16 h16 H16 W16
  have k17 := k12.wr W16 (Or.inl (by simp))
  have f18 := f13.wr W16
  have f19 := f14.same W16
  have f20 := f15.other W16 (Or.inr (slot_ne (Or.inr (w26 hw)) (Or.inr (w24 hw)) (by decide) (t := .byte) (t' := (.array .byte)) (by decide) (by decide)))
  exact o_return H16 rfl d8_57 oSt.tt (fun _ q => q) (by decide) (by decide) ⟨rfl, k17⟩
set_option maxRecDepth 65536 in
set_option maxHeartbeats 40000000 in
theorem rm8_0 (l : Launch) (Z : State) (a0 : Array Value) (hw : ∀ d ∈ tables_1, d.before a0 Z = true) (a1 : Addr) (p1 : Addr)  (h0 : Heap) (n0 : Nat) (Z0 : n0 ≤ h0.size) (E_a1 : Exa Z h0 a1 "java/lang/String") (g_a1 : n0 ≤ a1) (F_value_a1 : Fld Z h0 a1 "java/lang/String" "value" "[B" .null) (F_coder_a1 : Fld Z h0 a1 "java/lang/String" "coder" "B" (.int (0 : Int32))) (hh : Jvm.Lit.constHeld Z "java/lang/String" 7) (hcw : Jvm.Lit.compactW.before a0 Z = true) (E0 : Ext Z.heap h0) :
    oC l Z n0 (fun vm => IB Z vm []) (fun _ => True) (⟨"java/lang/String", "<init>", "([CIILjava/lang/Void;)V"⟩ : MethodName) jdk_42_method_149_code 6 none ({ frames := 2, cells := 2, slots := 4, locals := 40 } : Room) 2 4 #[(.ref a1), (.ref p1), (.int (0 : Int32)), (.int (0 : Int32)), .null] h0 (fun v h => v = none ∧ Keep h0 h [a1]) := by
  refine oC.of (b := true) (L := #[.val (.ref a1), .val (.ref p1), .val (.int (0 : Int32)), .val (.int (0 : Int32)), .val .null, .unset]) pn8 Z0 (fun _ => E0) (fun m => by first | (simp [entryFrame, mkF, argsToLocals, Value.category]; done) | rfl) ?_
  intro p e s m below meth c T H
  refine o_aloadN H rfl rfl d8_0 rfl ?_
  refine o_initO H (w20 hw) (w21 hw) (w22 hw) d8_1 rfl rfl (by decide) (Nat.le_of_ble_eq_true rfl) ?_
  intro T1 H2
  refine o_iloadN H2 rfl d8_4 rfl ?_
  refine o_if_f H2 d8_5 (by decide) rfl ?_
  refine o_aloadN H2 rfl rfl d8_8 rfl ?_
  refine o_ldcSV H2 (n := 0) rfl (fun _ q => q) (w50 hw) (own_wS hw) hh hcw (vs := []) (z := 0) ⟨by simp, rfl⟩ (by decide) rfl d8_9 rfl (by decide) (by decide) (by decide) (by decide) ?_
  intro T3 h3 b3 c3 H3 E3 X3 C3 V3
  have k4 := (Keep.refl h0 [a1]).ext E3
  have f5 := E_a1.ext E3
  have f6 := F_value_a1.ext E3
  have f7 := F_coder_a1.ext E3
  have ne3 : b3 ≠ a1 := V3.ne f6 (by simp)
  show oG p e below s n0 _ _ _ _ (T3.setTop (mkF m 11 #[.val (.ref a1), .val (.ref p1), .val (.int (0 : Int32)), .val (.int (0 : Int32)), .val .null, .unset] [(.ref b3), (.ref a1)]))
  refine o_getF H3 (host := "") (Or.inl (w23 hw)) V3 d8_11 rfl ?_
  intro T8 H9
  refine o_putF H9 (host := "") (Or.inl (w23 hw)) f6 f5 (Or.inr ⟨(w24 hw), rfl, rfl⟩) (w11 hw) (ty := (.array .byte)) (by decide) rfl rfl g_a1 d8_14 rfl ?_
  intro T10 h10 H10 W10
  have k11 := k4.wr W10 (Or.inl (by simp))
  have f12 := f5.wr W10
  have f13 := f6.same W10
  have f14 := f7.other W10 (Or.inr (slot_ne (Or.inr (w26 hw)) (Or.inr (w24 hw)) (by decide) (t := .byte) (t' := (.array .byte)) (by decide) (by decide)))
  have f15 := X3.wr W10
  have f16 := C3.other W10 (Or.inl ne3)
  have f17 := V3.other W10 (Or.inl ne3)
  refine o_aloadN H10 rfl rfl d8_17 rfl ?_
  refine o_ldcA H10 (a := b3) (w50 hw) (fun _ q => q) d8_18 rfl ?_
  refine o_getF H10 (host := "") (Or.inl (w25 hw)) f16 d8_20 rfl ?_
  intro T18 H19
  refine o_putFN H19 (w25 hw) f14 f12 (Or.inr ⟨(w26 hw), rfl, rfl⟩) (w11 hw) (ty := .byte) (v' := (.int (nar .byte (0 : Int32)))) (by decide) rfl (fits_nar_byte _) g_a1 d8_23 rfl ?_
  intro T20 h20 H20 W20
  have k21 := k11.wr W20 (Or.inl (by simp))
  have f22 := f12.wr W20
  have f23 := f13.other W20 (Or.inr (slot_ne (Or.inr (w24 hw)) (Or.inr (w26 hw)) (by decide) (t := (.array .byte)) (t' := .byte) (by decide) (by decide)))
  have f24 := f14.same W20
  have f25 := f15.wr W20
  have f26 := f16.other W20 (Or.inl ne3)
  have f27 := f17.other W20 (Or.inl ne3)
  exact o_return H20 rfl d8_26 oSt.lit (fun _ _ => trivial) (by decide) (by decide) ⟨rfl, k21⟩
theorem d7_0 : decode jdk_42_method_3_code 0 = .ok (.aload_n 0, 1) := by decide +kernel
theorem d7_1 : decode jdk_42_method_3_code 1 = .ok (.aload_n 1, 1) := by decide +kernel
theorem d7_2 : decode jdk_42_method_3_code 2 = .ok (.iconst 0, 1) := by decide +kernel
theorem d7_3 : decode jdk_42_method_3_code 3 = .ok (.aload_n 1, 1) := by decide +kernel
theorem d7_4 : decode jdk_42_method_3_code 4 = .ok (.arraylength, 1) := by decide +kernel
theorem d7_5 : decode jdk_42_method_3_code 5 = .ok (.aconst_null, 1) := by decide +kernel
theorem d7_6 : decode jdk_42_method_3_code 6 = .ok (.invokespecial 27, 3) := by decide +kernel
theorem d7_9 : decode jdk_42_method_3_code 9 = .ok (.return_, 1) := by decide +kernel
theorem pn7 : plainFor (⟨"java/lang/String", "<init>", "([C)V"⟩ : MethodName) = true := plainFor_of_name (by first | (simp [plainName, overriddenIn]; done) | decide +kernel)
theorem pd7 : parseMethodDescriptor "([C)V" = some ⟨[(.array .char)], none⟩ := by decide +kernel
set_option maxRecDepth 65536 in
set_option maxHeartbeats 40000000 in
theorem rm7_2 (l : Launch) (Z : State) (a0 : Array Value) (hw : ∀ d ∈ tables_1, d.before a0 Z = true) (a1 : Addr) (p1 : Addr) (x1 x2 cs : Int32) (h0 : Heap) (n0 : Nat) (Z0 : n0 ≤ h0.size) (E_a1 : Exa Z h0 a1 "java/lang/String") (g_a1 : n0 ≤ a1) (F_value_a1 : Fld Z h0 a1 "java/lang/String" "value" "[B" .null) (F_coder_a1 : Fld Z h0 a1 "java/lang/String" "coder" "B" (.int (0 : Int32))) (S_c : Sta Z h0 "java/lang/String" "COMPACT_STRINGS" "Z" (.int cs)) (hcs : ¬ cs = 0) (AV1 : oA .char Z h0 p1 [(.int x1), (.int x2)]) (hx1 : ¬ 255 < x1) (hx2 : ¬ 255 < x2) :
    oC l Z n0 (fun _ => True) (fun _ => True) (⟨"java/lang/String", "<init>", "([C)V"⟩ : MethodName) jdk_42_method_3_code 2 none ({ frames := 3, cells := 2, slots := 4, locals := 60 } : Room) 2 4 #[(.ref a1), (.ref p1)] h0 (fun v h => v = none ∧ Keep h0 h [a1]) := by
  refine oC.of (b := false) (L := #[.val (.ref a1), .val (.ref p1)]) pn7 Z0 (fun q => (nomatch q)) (fun m => by first | (simp [entryFrame, mkF, argsToLocals, Value.category]; done) | rfl) ?_
  intro p e s m below meth c T H
  refine o_aloadN H rfl rfl d7_0 rfl ?_
  refine o_aloadN H rfl rfl d7_1 rfl ?_
  refine o_iconst H (0 : Int32) rfl d7_2 rfl ?_
  refine o_aloadN H rfl rfl d7_3 rfl ?_
  refine o_arraylength H (2 : Int32) AV1 rfl d7_4 rfl ?_
  refine o_aconst_null H d7_5 rfl ?_
  refine o_special H [(.ref p1), (.int (0 : Int32)), (.int (2 : Int32)), .null] [] (rm8_2 l Z a0 hw a1 p1 x1 x2 cs h0 n0 H.le E_a1 g_a1 F_value_a1 F_coder_a1 S_c hcs AV1 hx1 hx2) rfl (w37 hw) (w38 hw) (w3 hw) (w39 hw) (by decide) (lenOf pd8 rfl) rfl rfl (by decide) (Nat.le_of_ble_eq_true rfl) (by decide) (by decide) d7_6 rfl (fun _ q => q) oSt.tt ?_
  intro T1 v1 h1 H1 q1
  obtain ⟨rfl, K1⟩ := q1
  have k2 := (Keep.refl h0 [a1]).trans K1 (allS (Or.inl (by simp)) all0)
  have f3 := E_a1.keep K1
  show oG p e below s n0 _ _ _ _ (T1.setTop (mkF m 9 #[.val (.ref a1), .val (.ref p1)] []))
  exact o_return H1 rfl d7_9 oSt.tt (fun _ q => q) (by decide) (by decide) ⟨rfl, k2⟩
set_option maxRecDepth 65536 in
set_option maxHeartbeats 40000000 in
theorem rm7_0 (l : Launch) (Z : State) (a0 : Array Value) (hw : ∀ d ∈ tables_1, d.before a0 Z = true) (a1 : Addr) (p1 : Addr)  (h0 : Heap) (n0 : Nat) (Z0 : n0 ≤ h0.size) (E_a1 : Exa Z h0 a1 "java/lang/String") (g_a1 : n0 ≤ a1) (F_value_a1 : Fld Z h0 a1 "java/lang/String" "value" "[B" .null) (F_coder_a1 : Fld Z h0 a1 "java/lang/String" "coder" "B" (.int (0 : Int32))) (AV1 : oA .char Z h0 p1 []) (hh : Jvm.Lit.constHeld Z "java/lang/String" 7) (hcw : Jvm.Lit.compactW.before a0 Z = true) (E0 : Ext Z.heap h0) :
    oC l Z n0 (fun vm => IB Z vm []) (fun _ => True) (⟨"java/lang/String", "<init>", "([C)V"⟩ : MethodName) jdk_42_method_3_code 2 none ({ frames := 3, cells := 2, slots := 4, locals := 60 } : Room) 2 4 #[(.ref a1), (.ref p1)] h0 (fun v h => v = none ∧ Keep h0 h [a1]) := by
  refine oC.of (b := false) (L := #[.val (.ref a1), .val (.ref p1)]) pn7 Z0 (fun q => (nomatch q)) (fun m => by first | (simp [entryFrame, mkF, argsToLocals, Value.category]; done) | rfl) ?_
  intro p e s m below meth c T H
  refine o_aloadN H rfl rfl d7_0 rfl ?_
  refine o_aloadN H rfl rfl d7_1 rfl ?_
  refine o_iconst H (0 : Int32) rfl d7_2 rfl ?_
  refine o_aloadN H rfl rfl d7_3 rfl ?_
  refine o_arraylength H (0 : Int32) AV1 rfl d7_4 rfl ?_
  refine o_aconst_null H d7_5 rfl ?_
  refine o_special H [(.ref p1), (.int (0 : Int32)), (.int (0 : Int32)), .null] [] (rm8_0 l Z a0 hw a1 p1 h0 n0 H.le E_a1 g_a1 F_value_a1 F_coder_a1 hh hcw E0) rfl (w37 hw) (w38 hw) (w3 hw) (w39 hw) (by decide) (lenOf pd8 rfl) rfl rfl (by decide) (Nat.le_of_ble_eq_true rfl) (by decide) (by decide) d7_6 rfl (fun _ q => q) oSt.ib ?_
  intro T1 v1 h1 H1 q1
  obtain ⟨rfl, K1⟩ := q1
  have k2 := (Keep.refl h0 [a1]).trans K1 (allS (Or.inl (by simp)) all0)
  have f3 := E_a1.keep K1
  show oG p e below s n0 _ _ _ _ (T1.setTop (mkF m 9 #[.val (.ref a1), .val (.ref p1)] []))
  exact o_return H1 rfl d7_9 oSt.tt (fun _ q => q) (by decide) (by decide) ⟨rfl, k2⟩
theorem d6_0 : decode prog_15_method_2_code 0 = .ok (.iload_n 0, 1) := by decide +kernel
theorem d6_1 : decode prog_15_method_2_code 1 = .ok (.ldc 15, 2) := by decide +kernel
theorem d6_3 : decode prog_15_method_2_code 3 = .ok (.if_icmp .ne 18, 3) := by decide +kernel
theorem d6_21 : decode prog_15_method_2_code 21 = .ok (.iload_n 0, 1) := by decide +kernel
theorem d6_22 : decode prog_15_method_2_code 22 = .ok (.iconst 1, 1) := by decide +kernel
theorem d6_23 : decode prog_15_method_2_code 23 = .ok (.iadd, 1) := by decide +kernel
theorem d6_24 : decode prog_15_method_2_code 24 = .ok (.ireturn, 1) := by decide +kernel
theorem pn6 : plainFor (⟨"com/example/brisk_lock/brisklock/HoldCount", "oneMore", "(ILjava/lang/String;)I"⟩ : MethodName) = true := plainFor_of_name (by first | (simp [plainName, overriddenIn]; done) | decide +kernel)
theorem pd6 : parseMethodDescriptor "(ILjava/lang/String;)I" = some ⟨[.int, (.object "java/lang/String")], some .int⟩ := by decide +kernel
set_option maxRecDepth 65536 in
set_option maxHeartbeats 40000000 in
theorem rm6 (l : Launch) (Z : State) (a0 : Array Value) (hw : ∀ d ∈ tables_1, d.before a0 Z = true) (p1 : Int32) (p2 : Addr)  (h0 : Heap) (n0 : Nat) (Z0 : n0 ≤ h0.size) (hp : ¬ p1 = 2147483647) :
    oC l Z n0 (fun _ => True) (fun _ => True) (⟨"com/example/brisk_lock/brisklock/HoldCount", "oneMore", "(ILjava/lang/String;)I"⟩ : MethodName) prog_15_method_2_code 2 (some .int) ({ frames := 0, cells := 0, slots := 0, locals := 0 } : Room) 0 0 #[(.int p1), (.ref p2)] h0 (fun v h => v = some (.int (p1 + 1)) ∧ h0 = h) := by
  refine oC.of (b := false) (L := #[.val (.int p1), .val (.ref p2)]) pn6 Z0 (fun q => (nomatch q)) (fun m => by first | (simp [entryFrame, mkF, argsToLocals, Value.category]; done) | rfl) ?_
  intro p e s m below meth c T H
  refine o_iloadN H rfl d6_0 rfl ?_
  refine o_ldcI H (2147483647 : Int32) (w31 hw) d6_1 rfl ?_
  refine o_icmp_t H d6_3 (XT.ii_ne_t hp) (pt := 21) (by decide) (by decide) ?_
  refine o_iloadN H rfl d6_21 rfl ?_
  refine o_iconst H (1 : Int32) rfl d6_22 rfl ?_
  refine o_iadd H d6_23 rfl ?_
  exact o_ireturn H rfl d6_24 oSt.tt (fun _ q => q) (by decide) (by decide) ⟨rfl, rfl⟩
theorem pn0 : plainFor x = true := plainFor_of_name (by first | (simp [plainName, overriddenIn]; done) | decide +kernel)
set_option maxRecDepth 65536 in
set_option maxHeartbeats 40000000 in
theorem rm0 (l : Launch) (Z : State) (a0 : Array Value) (hw : ∀ d ∈ tables_1, d.before a0 Z = true) (p1 : Int32) (p2 : Int32) (p3 : Int32) (p4 : Int32) (cs : Int32) (h0 : Heap) (n0 : Nat) (Z0 : n0 ≤ h0.size) (S_c : Sta Z h0 "java/lang/String" "COMPACT_STRINGS" "Z" (.int cs)) (hcs : ¬ cs = 0) (hh : Jvm.Lit.constHeld Z "java/lang/String" 7) (hcw : Jvm.Lit.compactW.before a0 Z = true) (E0 : Ext Z.heap h0) :
    oC l Z n0 (fun vm => IB Z vm []) (fun _ => True) x code maxLocals ret room_1 16 1152 #[(.int p1), (.int p2), (.int p3), (.int p4)] h0 (fun v h => v = some (.int 1)) := by
  refine oC.of (b := false) (L := #[.val (.int p1), .val (.int p2), .val (.int p3), .val (.int p4), .unset, .unset, .unset, .unset, .unset]) pn0 Z0 (fun q => (nomatch q)) (fun m => by first | (simp [entryFrame, mkF, argsToLocals, Value.category, maxLocals]; done) | rfl) ?_
  intro p e s m below meth c T H
  refine o_iloadN H rfl at_0 rfl ?_
  refine o_ldcI H (2147483647 : Int32) (w0 hw) at_1 rfl ?_
  refine o_icmp_ne H at_3 (pt := 8) (by decide) (by decide) rfl ?_ ?_
  · intro c3_1
    refine o_iloadN H rfl at_8 rfl ?_
    refine o_iconst H (3 : Int32) rfl at_9 rfl ?_
    refine o_iand H at_10 rfl ?_
    refine o_istore H (L' := #[.val (.int p1), .val (.int p2), .val (.int p3), .val (.int p4), .unset, .val (.int (p4 &&& (3 : Int32))), .unset, .unset, .unset]) rfl at_11 rfl ?_
    refine o_iload H rfl at_13 rfl ?_
    refine o_if_ne H at_15 (pt := 33) (by decide) (by decide) rfl ?_ ?_
    · intro c15_2
      refine o_iload H rfl at_33 rfl ?_
      refine o_iconst H (1 : Int32) rfl at_35 rfl ?_
      refine o_icmp_ne H at_36 (pt := 53) (by decide) (by decide) rfl ?_ ?_
      · intro c36_3
        refine o_new H (w32 hw) (w11 hw) (w3 hw) at_53 rfl (by decide) (by decide) ?_
        intro T4 h4 b4 g4 H4 E4 A4 D4
        have z4 : n0 ≤ b4 := by rw [g4]; exact H.le
        have y4 : h0.size ≤ b4 := by rw [g4]; exact (Keep.refl h0 []).1
        have k5 := (Keep.refl h0 []).ext E4
        have f6 : Fld Z h4 b4 "java/lang/String" "value" "[B" .null := D4 (Or.inr (w24 hw)) (ty := (.array .byte)) (by decide)
        have f7 : Fld Z h4 b4 "java/lang/String" "coder" "B" (.int (0 : Int32)) := D4 (Or.inr (w26 hw)) (ty := .byte) (by decide)
        refine o_dup H4 rfl at_56 rfl ?_
        refine o_iconst H4 (2 : Int32) rfl at_57 rfl ?_
        refine o_newarr (aty := .char) H4 2 2 (w33 hw) (by decide) (by decide) (by decide) at_58 rfl (by decide) (by decide) ?_
        intro T8 h8 b8 g8 H8 E8 A8
        have ne8_b4 : b4 ≠ b8 := by rw [g8]; exact Nat.ne_of_lt (A4).lt
        have z8 : n0 ≤ b8 := by rw [g8]; exact H4.le
        have y8 : h0.size ≤ b8 := by rw [g8]; exact k5.1
        have k9 := k5.ext E8
        have f10 := A4.ext E8
        have f11 := f6.ext E8
        have f12 := f7.ext E8
        have f13 : oA .char Z h8 b8 [(.int 0), (.int 0)] := A8
        refine o_dup H8 rfl at_60 rfl ?_
        refine o_iconst H8 (0 : Int32) rfl at_61 rfl ?_
        refine o_iloadN H8 rfl at_62 rfl ?_
        refine o_sipush H8 (255 : Int32) rfl at_63 rfl ?_
        refine o_iand H8 at_66 rfl ?_
        refine o_i2c H8 at_67 rfl ?_
        refine o_castore H8 0 f13 (by decide) (Nat.le_of_ble_eq_true rfl) z8 at_68 rfl ?_
        intro T14 h14 H14 W14 A14
        have k15 := k9.wr W14 (Or.inr y8)
        have f16 := f10.wr W14
        have f17 := f11.other W14 (Or.inl ne8_b4)
        have f18 := f12.other W14 (Or.inl ne8_b4)
        have f19 : oA .char Z h14 b8 [(.int (nar .char ((p2 &&& (255 : Int32)).toUInt32.toUInt16.toUInt32.toInt32))), (.int 0)] := A14
        refine o_dup H14 rfl at_69 rfl ?_
        refine o_iconst H14 (1 : Int32) rfl at_70 rfl ?_
        refine o_iloadN H14 rfl at_71 rfl ?_
        refine o_sipush H14 (255 : Int32) rfl at_72 rfl ?_
        refine o_iand H14 at_75 rfl ?_
        refine o_i2c H14 at_76 rfl ?_
        refine o_castore H14 1 f19 (by decide) (Nat.le_of_ble_eq_true rfl) z8 at_77 rfl ?_
        intro T20 h20 H20 W20 A20
        have k21 := k15.wr W20 (Or.inr y8)
        have f22 := f16.wr W20
        have f23 := f17.other W20 (Or.inl ne8_b4)
        have f24 := f18.other W20 (Or.inl ne8_b4)
        have f25 : oA .char Z h20 b8 [(.int (nar .char ((p2 &&& (255 : Int32)).toUInt32.toUInt16.toUInt32.toInt32))), (.int (nar .char ((p3 &&& (255 : Int32)).toUInt32.toUInt16.toUInt32.toInt32)))] := A20
        refine o_special H20 [(.ref b8)] [(.ref b4)] (rm7_2 l Z a0 hw b4 b8 (nar .char ((p2 &&& (255 : Int32)).toUInt32.toUInt16.toUInt32.toInt32)) (nar .char ((p3 &&& (255 : Int32)).toUInt32.toUInt16.toUInt32.toInt32)) cs h20 n0 H20.le f22 z4 f23 f24 (S_c.ext (o_kext k21)) hcs f25 (own_cc p2) (own_cc p3)) rfl (w34 hw) (w35 hw) (w3 hw) (w36 hw) (by decide) (lenOf pd7 rfl) rfl rfl (by decide) (Nat.le_of_ble_eq_true rfl) (by decide) (by decide) at_78 rfl (fun _ _ => trivial) oSt.tt ?_
        intro T26 v26 h26 H26 q26
        obtain ⟨rfl, K26⟩ := q26
        have k27 := k21.trans K26 (allS (Or.inr y4) all0)
        have f28 := f22.keep K26
        show oG p e below s n0 _ _ _ _ (T26.setTop (mkF m 81 #[.val (.int p1), .val (.int p2), .val (.int p3), .val (.int p4), .unset, .val (.int (p4 &&& (3 : Int32))), .unset, .unset, .unset] [(.ref b4)]))
        refine o_astore H26 (L' := #[.val (.int p1), .val (.int p2), .val (.int p3), .val (.int p4), .val (.ref b4), .val (.int (p4 &&& (3 : Int32))), .unset, .unset, .unset]) rfl rfl at_81 rfl ?_
        refine o_iloadN H26 rfl at_83 rfl ?_
        refine o_aload H26 rfl rfl at_84 rfl ?_
        refine o_static H26 [(.int p1), (.ref b4)] [] (rm6 l Z a0 hw p1 b4 h26 n0 H26.le c3_1) (w27 hw) (w28 hw) (w29 hw) (w30 hw) (by decide) (lenOf pd6 rfl) rfl rfl (by decide) (Nat.le_of_ble_eq_true rfl) (by decide) (by decide) at_86 rfl (fun _ q => q) oSt.tt ?_
        intro T29 v29 h29 H29 q29
        obtain ⟨rfl, rfl⟩ := q29
        show oG p e below s n0 _ _ _ _ (T29.setTop (mkF m 89 #[.val (.int p1), .val (.int p2), .val (.int p3), .val (.int p4), .val (.ref b4), .val (.int (p4 &&& (3 : Int32))), .unset, .unset, .unset] [(.int (p1 + (1 : Int32)))]))
        refine o_istore H29 (L' := #[.val (.int p1), .val (.int p2), .val (.int p3), .val (.int p4), .val (.ref b4), .val (.int (p4 &&& (3 : Int32))), .val (.int (p1 + (1 : Int32))), .unset, .unset]) rfl at_89 rfl ?_
        refine o_iloadN H29 rfl at_91 rfl ?_
        refine o_i2l H29 at_92 rfl ?_
        refine o_lconst H29 (1 : Int64) rfl at_93 rfl ?_
        refine o_ladd H29 at_94 rfl ?_
        refine o_lstore H29 (L' := #[.val (.int p1), .val (.int p2), .val (.int p3), .val (.int p4), .val (.ref b4), .val (.int (p4 &&& (3 : Int32))), .val (.int (p1 + (1 : Int32))), .val (.long ((p1.toInt64) + (1 : Int64))), .second]) rfl at_95 rfl ?_
        refine o_iload H29 rfl at_97 rfl ?_
        refine o_i2l H29 at_99 rfl ?_
        refine o_lload H29 rfl at_100 rfl ?_
        refine o_lcmp H29 at_102 rfl ?_
        refine o_ifl_ne H29 at_103 (pt := 116) (by decide) (by decide) rfl ?_ ?_
        · intro c103_30
          refine o_iconst H29 (0 : Int32) rfl at_116 rfl ?_
          exact o_nreturn H29 .boolean rfl (by simp) at_117 oSt.tt (fun _ q => q) (by decide) (by decide) (absurd (own_t1 c3_1) c103_30)
        · intro c103_30
          refine o_iload H29 rfl at_106 rfl ?_
          refine o_iloadN H29 rfl at_108 rfl ?_
          refine o_icmp_le H29 at_109 (pt := 116) (by decide) (by decide) rfl ?_ ?_
          · intro c109_31
            refine o_iconst H29 (0 : Int32) rfl at_116 rfl ?_
            exact o_nreturn H29 .boolean rfl (by simp) at_117 oSt.tt (fun _ q => q) (by decide) (by decide) (absurd (own_t2 c3_1) c109_31)
          · intro c109_31
            refine o_iconst H29 (1 : Int32) rfl at_112 rfl ?_
            refine o_goto H29 at_113 (pt := 117) (by decide) (by decide) ?_
            exact o_nreturn H29 .boolean rfl (by simp) at_117 oSt.tt (fun _ q => q) (by decide) (by decide) rfl
      · intro c36_3
        refine o_iloadN H rfl at_39 rfl ?_
        refine o_sipush H (255 : Int32) rfl at_40 rfl ?_
        refine o_iand H at_43 rfl ?_
        refine o_i2c H at_44 rfl ?_
        refine o_static H [(.int ((p2 &&& (255 : Int32)).toUInt32.toUInt16.toUInt32.toInt32))] [] (rm1 l Z a0 hw ((p2 &&& (255 : Int32)).toUInt32.toUInt16.toUInt32.toInt32) cs h0 n0 H.le (S_c.ext (o_kext (Keep.refl h0 []))) hcs (own_c p2)) (w1 hw) (w2 hw) (w3 hw) (w4 hw) (by decide) (lenOf pd1 rfl) rfl rfl (by decide) (Nat.le_of_ble_eq_true rfl) (by decide) (by decide) at_45 rfl (fun _ _ => trivial) oSt.tt ?_
        intro T32 v32 h32 H32 q32
        obtain ⟨r32, rfl, K32⟩ := q32
        have k33 := (Keep.refl h0 []).trans K32 all0
        show oG p e below s n0 _ _ _ _ (T32.setTop (mkF m 48 #[.val (.int p1), .val (.int p2), .val (.int p3), .val (.int p4), .unset, .val (.int (p4 &&& (3 : Int32))), .unset, .unset, .unset] [(.ref r32)]))
        refine o_astore H32 (L' := #[.val (.int p1), .val (.int p2), .val (.int p3), .val (.int p4), .val (.ref r32), .val (.int (p4 &&& (3 : Int32))), .unset, .unset, .unset]) rfl rfl at_48 rfl ?_
        refine o_goto H32 at_50 (pt := 83) (by decide) (by decide) ?_
        refine o_iloadN H32 rfl at_83 rfl ?_
        refine o_aload H32 rfl rfl at_84 rfl ?_
        refine o_static H32 [(.int p1), (.ref r32)] [] (rm6 l Z a0 hw p1 r32 h32 n0 H32.le c3_1) (w27 hw) (w28 hw) (w29 hw) (w30 hw) (by decide) (lenOf pd6 rfl) rfl rfl (by decide) (Nat.le_of_ble_eq_true rfl) (by decide) (by decide) at_86 rfl (fun _ q => q) oSt.tt ?_
        intro T34 v34 h34 H34 q34
        obtain ⟨rfl, rfl⟩ := q34
        show oG p e below s n0 _ _ _ _ (T34.setTop (mkF m 89 #[.val (.int p1), .val (.int p2), .val (.int p3), .val (.int p4), .val (.ref r32), .val (.int (p4 &&& (3 : Int32))), .unset, .unset, .unset] [(.int (p1 + (1 : Int32)))]))
        refine o_istore H34 (L' := #[.val (.int p1), .val (.int p2), .val (.int p3), .val (.int p4), .val (.ref r32), .val (.int (p4 &&& (3 : Int32))), .val (.int (p1 + (1 : Int32))), .unset, .unset]) rfl at_89 rfl ?_
        refine o_iloadN H34 rfl at_91 rfl ?_
        refine o_i2l H34 at_92 rfl ?_
        refine o_lconst H34 (1 : Int64) rfl at_93 rfl ?_
        refine o_ladd H34 at_94 rfl ?_
        refine o_lstore H34 (L' := #[.val (.int p1), .val (.int p2), .val (.int p3), .val (.int p4), .val (.ref r32), .val (.int (p4 &&& (3 : Int32))), .val (.int (p1 + (1 : Int32))), .val (.long ((p1.toInt64) + (1 : Int64))), .second]) rfl at_95 rfl ?_
        refine o_iload H34 rfl at_97 rfl ?_
        refine o_i2l H34 at_99 rfl ?_
        refine o_lload H34 rfl at_100 rfl ?_
        refine o_lcmp H34 at_102 rfl ?_
        refine o_ifl_ne H34 at_103 (pt := 116) (by decide) (by decide) rfl ?_ ?_
        · intro c103_35
          refine o_iconst H34 (0 : Int32) rfl at_116 rfl ?_
          exact o_nreturn H34 .boolean rfl (by simp) at_117 oSt.tt (fun _ q => q) (by decide) (by decide) (absurd (own_t1 c3_1) c103_35)
        · intro c103_35
          refine o_iload H34 rfl at_106 rfl ?_
          refine o_iloadN H34 rfl at_108 rfl ?_
          refine o_icmp_le H34 at_109 (pt := 116) (by decide) (by decide) rfl ?_ ?_
          · intro c109_36
            refine o_iconst H34 (0 : Int32) rfl at_116 rfl ?_
            exact o_nreturn H34 .boolean rfl (by simp) at_117 oSt.tt (fun _ q => q) (by decide) (by decide) (absurd (own_t2 c3_1) c109_36)
          · intro c109_36
            refine o_iconst H34 (1 : Int32) rfl at_112 rfl ?_
            refine o_goto H34 at_113 (pt := 117) (by decide) (by decide) ?_
            exact o_nreturn H34 .boolean rfl (by simp) at_117 oSt.tt (fun _ q => q) (by decide) (by decide) rfl
    · intro c15_2
      refine o_new H (w32 hw) (w11 hw) (w3 hw) at_18 rfl (by decide) (by decide) ?_
      intro T37 h37 b37 g37 H37 E37 A37 D37
      have z37 : n0 ≤ b37 := by rw [g37]; exact H.le
      have y37 : h0.size ≤ b37 := by rw [g37]; exact (Keep.refl h0 []).1
      have k38 := (Keep.refl h0 []).ext E37
      have f39 : Fld Z h37 b37 "java/lang/String" "value" "[B" .null := D37 (Or.inr (w24 hw)) (ty := (.array .byte)) (by decide)
      have f40 : Fld Z h37 b37 "java/lang/String" "coder" "B" (.int (0 : Int32)) := D37 (Or.inr (w26 hw)) (ty := .byte) (by decide)
      refine o_dup H37 rfl at_21 rfl ?_
      refine o_iconst H37 (0 : Int32) rfl at_22 rfl ?_
      refine o_newarr (aty := .char) H37 0 0 (w33 hw) (by decide) (by decide) (by decide) at_23 rfl (by decide) (by decide) ?_
      intro T41 h41 b41 g41 H41 E41 A41
      have ne41_b37 : b37 ≠ b41 := by rw [g41]; exact Nat.ne_of_lt (A37).lt
      have z41 : n0 ≤ b41 := by rw [g41]; exact H37.le
      have y41 : h0.size ≤ b41 := by rw [g41]; exact k38.1
      have k42 := k38.ext E41
      have f43 := A37.ext E41
      have f44 := f39.ext E41
      have f45 := f40.ext E41
      have f46 : oA .char Z h41 b41 [] := A41
      refine o_special H41 [(.ref b41)] [(.ref b37)] (rm7_0 l Z a0 hw b37 b41 h41 n0 H41.le f43 z37 f44 f45 f46 hh hcw (o_etrans E0 (o_kext k42))) rfl (w34 hw) (w35 hw) (w3 hw) (w36 hw) (by decide) (lenOf pd7 rfl) rfl rfl (by decide) (Nat.le_of_ble_eq_true rfl) (by decide) (by decide) at_25 rfl (fun _ q => q) oSt.ib ?_
      intro T47 v47 h47 H47 q47
      obtain ⟨rfl, K47⟩ := q47
      have k48 := k42.trans K47 (allS (Or.inr y37) all0)
      have f49 := f43.keep K47
      show oG p e below s n0 _ _ _ _ (T47.setTop (mkF m 28 #[.val (.int p1), .val (.int p2), .val (.int p3), .val (.int p4), .unset, .val (.int (p4 &&& (3 : Int32))), .unset, .unset, .unset] [(.ref b37)]))
      refine o_astore H47 (L' := #[.val (.int p1), .val (.int p2), .val (.int p3), .val (.int p4), .val (.ref b37), .val (.int (p4 &&& (3 : Int32))), .unset, .unset, .unset]) rfl rfl at_28 rfl ?_
      refine o_goto H47 at_30 (pt := 83) (by decide) (by decide) ?_
      refine o_iloadN H47 rfl at_83 rfl ?_
      refine o_aload H47 rfl rfl at_84 rfl ?_
      refine o_static H47 [(.int p1), (.ref b37)] [] (rm6 l Z a0 hw p1 b37 h47 n0 H47.le c3_1) (w27 hw) (w28 hw) (w29 hw) (w30 hw) (by decide) (lenOf pd6 rfl) rfl rfl (by decide) (Nat.le_of_ble_eq_true rfl) (by decide) (by decide) at_86 rfl (fun _ q => q) oSt.tt ?_
      intro T50 v50 h50 H50 q50
      obtain ⟨rfl, rfl⟩ := q50
      show oG p e below s n0 _ _ _ _ (T50.setTop (mkF m 89 #[.val (.int p1), .val (.int p2), .val (.int p3), .val (.int p4), .val (.ref b37), .val (.int (p4 &&& (3 : Int32))), .unset, .unset, .unset] [(.int (p1 + (1 : Int32)))]))
      refine o_istore H50 (L' := #[.val (.int p1), .val (.int p2), .val (.int p3), .val (.int p4), .val (.ref b37), .val (.int (p4 &&& (3 : Int32))), .val (.int (p1 + (1 : Int32))), .unset, .unset]) rfl at_89 rfl ?_
      refine o_iloadN H50 rfl at_91 rfl ?_
      refine o_i2l H50 at_92 rfl ?_
      refine o_lconst H50 (1 : Int64) rfl at_93 rfl ?_
      refine o_ladd H50 at_94 rfl ?_
      refine o_lstore H50 (L' := #[.val (.int p1), .val (.int p2), .val (.int p3), .val (.int p4), .val (.ref b37), .val (.int (p4 &&& (3 : Int32))), .val (.int (p1 + (1 : Int32))), .val (.long ((p1.toInt64) + (1 : Int64))), .second]) rfl at_95 rfl ?_
      refine o_iload H50 rfl at_97 rfl ?_
      refine o_i2l H50 at_99 rfl ?_
      refine o_lload H50 rfl at_100 rfl ?_
      refine o_lcmp H50 at_102 rfl ?_
      refine o_ifl_ne H50 at_103 (pt := 116) (by decide) (by decide) rfl ?_ ?_
      · intro c103_51
        refine o_iconst H50 (0 : Int32) rfl at_116 rfl ?_
        exact o_nreturn H50 .boolean rfl (by simp) at_117 oSt.tt (fun _ q => q) (by decide) (by decide) (absurd (own_t1 c3_1) c103_51)
      · intro c103_51
        refine o_iload H50 rfl at_106 rfl ?_
        refine o_iloadN H50 rfl at_108 rfl ?_
        refine o_icmp_le H50 at_109 (pt := 116) (by decide) (by decide) rfl ?_ ?_
        · intro c109_52
          refine o_iconst H50 (0 : Int32) rfl at_116 rfl ?_
          exact o_nreturn H50 .boolean rfl (by simp) at_117 oSt.tt (fun _ q => q) (by decide) (by decide) (absurd (own_t2 c3_1) c109_52)
        · intro c109_52
          refine o_iconst H50 (1 : Int32) rfl at_112 rfl ?_
          refine o_goto H50 at_113 (pt := 117) (by decide) (by decide) ?_
          exact o_nreturn H50 .boolean rfl (by simp) at_117 oSt.tt (fun _ q => q) (by decide) (by decide) rfl
  · intro c3_1
    refine o_iconst H (1 : Int32) rfl at_6 rfl ?_
    exact o_nreturn H .boolean rfl (by simp) at_7 oSt.ib (fun _ _ => trivial) (by decide) (by decide) rfl
set_option maxRecDepth 65536 in
set_option maxHeartbeats 40000000 in
theorem comes_1 {Post : Tables → Env → Array Value → State → Outcome → State → Prop} (hpost : ∀ tb e args s v u, (limb_1_1.after args s (.returned v) u = true ∧ limb_1_2.after args s (.returned v) u = true ∧ True) → ReturnedEndW s (.returned v) u (Jvm.fieldLocs frame_1_writes args s ++ Jvm.arrayLocs frame_1_arrays args s ++ Jvm.staticLocs frame_1_statics s) 16 1152 → Post tb e args s (.returned v) u) :
    ArmFor flags0 classFile x code maxLocals ret World_1 tables_1 room_1 Calls_1 rest_1 Pre_1 Post := by
  intro l hfl _ _ p e ha hc hk s m args below hf hA hF happ hP
  obtain ⟨hcalls, hrest, hpre⟩ := hP
  obtain ⟨-, -, -, hnamed, -, -, -, hat⟩ := (Spec.applies_iff hf).mp happ
  obtain ⟨hg, hn⟩ := and_e (Cond.before_iff.mp (show (Jvm.Cond.and given_1 narrow_1).before args s = true from hpre))
  obtain ⟨g0, gs0⟩ := and_e hg
  obtain ⟨a0, gs1⟩ := and_e gs0
  obtain ⟨a1, gs2⟩ := and_e gs1
  obtain ⟨a2, gs3⟩ := and_e gs2
  have a3 := gs3
  obtain ⟨w0, w1, w2, w3, rfl⟩ : ∃ w0 w1 w2 w3 : Value, args = #[w0, w1, w2, w3] := by
    have hs : args.size = 4 := by simpa [Cond.value, given_1] using g0
    obtain ⟨L⟩ := args
    match L, hs with
    | [w0, w1, w2, w3], _ => exact ⟨w0, w1, w2, w3, rfl⟩
  have hw := fun d (hd : d ∈ tables_1) => atoms_spec (ws := Jvm.Cond.code x code maxLocals ret :: tables_1) hat d (List.mem_cons_of_mem _ hd)
  have hfit : Fit s := fun {y c} hc i hi => by
    obtain ⟨ha, rfl⟩ := Array.getElem?_eq_some_iff.mp hc
    have q := List.all_eq_true.mp ((Array.all_eq_true_iff_forall_mem.mp hF) _ (Array.getElem_mem ha)) i (List.mem_range.mpr hi)
    simpa [Array.getElem?_eq_getElem hi] using q
  obtain ⟨i0, e0⟩ := is_v a0
  obtain rfl : w0 = (.int i0) := Option.some.inj e0
  obtain ⟨i1, e1⟩ := is_v a1
  obtain rfl : w1 = (.int i1) := Option.some.inj e1
  obtain ⟨i2, e2⟩ := is_v a2
  obtain rfl : w2 = (.int i2) := Option.some.inj e2
  obtain ⟨i3, e3⟩ := is_v a3
  obtain rfl : w3 = (.int i3) := Option.some.inj e3
  obtain ⟨hsets, hown0⟩ := atoms_of _ (rest_1_c_eq ▸ (show rest_1_c.before _ s = true from hrest))
  have n3 := not_v (Cond.before_iff.mp (hsets _ (List.mem_of_getElem? (i := 2) rfl)))
  obtain ⟨cs, ec⟩ := is_v (Cond.before_iff.mp (hsets _ (List.mem_of_getElem? (i := 1) rfl)))
  have S_c : Sta s s.heap "java/lang/String" "COMPACT_STRINGS" "Z" (.int cs) := Sta.start ec (Or.inl (hsets _ (List.mem_of_getElem? (i := 0) rfl)))
  have hcs : ¬ (cs = (0 : Int32)) := gotF (Cond.eq_ints ec (Term.int_eval (0))) n3
  have hh : Jvm.Lit.constHeld s "java/lang/String" 7 := hcalls.1 ("java/lang/String", 7) (by simp [consts_1])
  obtain ⟨n, o, h1, h2, h3, _, L, rfl, ⟨rfl, N, -⟩, hq⟩ := rm0 l s _ hw i0 i1 i2 i3 cs s.heap s.heap.size (Nat.le_refl _) S_c hcs hh (hsets _ (List.mem_of_getElem? (i := 2) rfl)) ⟨Nat.le_refl _, fun _ _ q => q⟩ tables_1 p e ha hc hk s m _ below hf ((Spec.applies_iff_loose hf).mp happ).1 ⟨rfl, State.Warmed39.refl s, rfl, IB.start⟩ trivial
  refine ⟨n, _, h1, h2, h3, hpost _ _ _ _ _ _ ⟨Cond.after_iff.mpr rfl, Cond.after_iff.mpr (eq_i res_at (Term.int_eval (1)) rfl), trivial⟩ ⟨hq.1, hq.2.1, hq.2.2.1, (hq.2.2.2.sift fun y hy => Or.inr (N y hy)).mono (by decide) (by decide)⟩⟩
theorem main_1_1 : Claimed_1_1 := comes_1 fun _ _ _ _ _ _ h hF => ⟨h.1, hF⟩
theorem main_1_2 : Claimed_1_2 := comes_1 fun _ _ _ _ _ _ h hF => ⟨h.2.1, hF⟩
end Jvm.Pilot.@@N@@
namespace Jvm.Pilot.@@N@@
open Jvm Jvm.ClassFile Sem Op Lib Jvm.Free Jvm.Stand Jvm.Pilot.@@N@@.Jvm.D
/-! MADE BY PROGRAM (witnessworld.py) out of the Statement's table words and the real class files: 20 classes; the members and pool entries that the words name. The judged class is class 1, her method 1. -/
namespace start1
open Jvm.ClassFile
def u (s : String) : CpInfo := .utf8 (stringToUtf16 s)
/-- a pool by its gaps: so many unusable entries, then the entry; so many at the end -/
def gap : Nat → List CpInfo → List CpInfo
  | 0, r => r
  | n + 1, r => .unusable :: gap n r
def poolList (es : List (Nat × CpInfo)) (last : Nat) : List CpInfo := es.foldr (fun e r => gap e.1 (e.2 :: r)) (gap last [])
def pool (es : List (Nat × CpInfo)) (last : Nat) : Array CpInfo := ⟨poolList es last⟩
def fileOf (pool : Array CpInfo) (this : Nat) (attrs : Array Attribute := #[]) (ms : Array MethodInfo := #[]) (fl : Nat := 33) (sup : Nat := 0) (ifs : Array Nat := #[]) (fds : Array FieldInfo := #[]) : ClassFile where
  minorVersion := 0
  majorVersion := 65
  constantPool := pool
  accessFlags := fl
  thisClass := this
  superClass := sup
  interfaces := ifs
  fields := fds
  methods := ms
  attributes := attrs
def plain (name : String) (sup : Option ClassId) : Class where
  name := name
  kind := .ordinary
  loader := none
  accessFlags := 33
  super := sup
  interfaces := #[]
  cf := none
  fields := #[]
  methods := #[]
  instanceTypes := #[]
  staticTypes := #[]
  resolved := #[]
  callSites := []
  init := .initialized
  statics := none
  mirror := none

def pool0 : Array CpInfo := pool [(5, u "<init>"), (0, u "()V"), (1, .class_ 10), (1, u "java/lang/Object")] 113

def k0c0 : Code := { maxStack := 0, maxLocals := 1, code := object_method_1_code, exceptionTable := #[], attributes := #[] }
def k0m0 : Method := { name := "<init>", desc := "()V", sig := { parameters := [], returnType := none }, accessFlags := 1, code := some k0c0 }
/-- java/lang/Object -/
def k0 : Class := { plain "java/lang/Object" none with
  accessFlags := 33
  interfaces := #[]
  cf := some (fileOf pool0 8 #[] #[{ accessFlags := 1, nameIndex := 5, descriptorIndex := 6, attributes := #[] }] 33 0 #[] #[])
  fields := #[]
  methods := #[k0m0]
  instanceTypes := #[]
  staticTypes := #[]
  resolved := Array.replicate 124 none
  statics := none }

def pool1 : Array CpInfo := pool [(2, .class_ 4), (1, u "java/lang/Object"), (0, u "<init>"), (0, u "()V"), (2, .integer 2147483647), (0, .class_ 11), (0, u "java/lang/String"), (0, .methodref 10 13), (0, .nameAndType 5 14), (0, u "([C)V"), (0, .methodref 10 16), (0, .nameAndType 17 18), (0, u "valueOf"), (0, u "(C)Ljava/lang/String;"), (0, .methodref 20 21), (0, .class_ 22), (0, .nameAndType 23 24), (0, u "com/example/brisk_lock/brisklock/HoldCount"), (0, u "oneMore"), (0, u "(ILjava/lang/String;)I"), (0, .class_ 26), (0, u "com/example/brisk_lock/brisklock/HoldCountOneMorePinLaw"), (2, u "law"), (0, u "(IIII)Z")] 3

def k1m0 : Method := { name := "<init>", desc := "()V", sig := { parameters := [], returnType := none }, accessFlags := 1, code := none }
def k1c1 : Code := { maxStack := 7, maxLocals := 9, code := code, exceptionTable := #[], attributes := #[] }
def k1m1 : Method := { name := "law", desc := "(IIII)Z", sig := { parameters := [.int, .int, .int, .int], returnType := some .boolean }, accessFlags := 9, code := some k1c1 }
/-- com/example/brisk_lock/brisklock/HoldCountOneMorePinLaw -/
def k1 : Class := { plain "com/example/brisk_lock/brisklock/HoldCountOneMorePinLaw" (some 0) with
  accessFlags := 49
  interfaces := #[]
  cf := some (fileOf pool1 25 #[] #[{ accessFlags := 1, nameIndex := 5, descriptorIndex := 6, attributes := #[] }, { accessFlags := 9, nameIndex := 29, descriptorIndex := 30, attributes := #[] }] 49 2 #[] #[])
  fields := #[]
  methods := #[k1m0, k1m1]
  instanceTypes := #[]
  staticTypes := #[]
  resolved := Array.replicate 34 none
  statics := none }

def pool2 : Array CpInfo := pool [(1, .class_ 2), (0, u "java/io/Serializable"), (0, .class_ 4), (0, u "java/lang/Object")] 2

/-- java/io/Serializable -/
def k2 : Class := { plain "java/io/Serializable" (some 0) with
  accessFlags := 1537
  interfaces := #[]
  cf := some (fileOf pool2 1 #[] #[] 1537 3 #[] #[])
  fields := #[]
  methods := #[]
  instanceTypes := #[]
  staticTypes := #[]
  resolved := Array.replicate 7 none
  statics := none }

def pool3 : Array CpInfo := pool [(1, .class_ 2), (0, u "java/lang/Comparable"), (0, .class_ 4), (0, u "java/lang/Object")] 7

/-- java/lang/Comparable -/
def k3 : Class := { plain "java/lang/Comparable" (some 0) with
  accessFlags := 1537
  interfaces := #[]
  cf := some (fileOf pool3 1 #[] #[] 1537 3 #[] #[])
  fields := #[]
  methods := #[]
  instanceTypes := #[]
  staticTypes := #[]
  resolved := Array.replicate 12 none
  statics := none }

def pool4 : Array CpInfo := pool [(2, .class_ 4), (1, u "java/lang/CharSequence"), (42, .class_ 48), (0, u "java/lang/CharSequence$1CodePointIterator"), (10, .class_ 60), (0, u "java/lang/CharSequence$1CharIterator"), (5, .class_ 67), (0, u "java/lang/Object")] 63

/-- java/lang/CharSequence -/
def k4 : Class := { plain "java/lang/CharSequence" (some 0) with
  accessFlags := 1537
  interfaces := #[]
  cf := some (fileOf pool4 2 #[.nestMembers #[47, 59]] #[] 1537 66 #[] #[])
  fields := #[]
  methods := #[]
  instanceTypes := #[]
  staticTypes := #[]
  resolved := Array.replicate 131 none
  statics := none }

def pool5 : Array CpInfo := pool [(1, .class_ 2), (0, u "java/lang/constant/Constable"), (0, .class_ 4), (0, u "java/lang/Object")] 6

/-- java/lang/constant/Constable -/
def k5 : Class := { plain "java/lang/constant/Constable" (some 0) with
  accessFlags := 1537
  interfaces := #[]
  cf := some (fileOf pool5 1 #[] #[] 1537 3 #[] #[])
  fields := #[]
  methods := #[]
  instanceTypes := #[]
  staticTypes := #[]
  resolved := Array.replicate 11 none
  statics := none }

def pool6 : Array CpInfo := pool [(1, .class_ 2), (0, u "java/lang/constant/ConstantDesc"), (0, .class_ 4), (0, u "java/lang/Object")] 32

/-- java/lang/constant/ConstantDesc -/
def k6 : Class := { plain "java/lang/constant/ConstantDesc" (some 0) with
  accessFlags := 1537
  interfaces := #[]
  cf := some (fileOf pool6 1 #[] #[] 1537 3 #[] #[])
  fields := #[]
  methods := #[]
  instanceTypes := #[]
  staticTypes := #[]
  resolved := Array.replicate 37 none
  statics := none }

def pool7 : Array CpInfo := pool [(1, .methodref 2 3), (0, .class_ 4), (0, .nameAndType 5 6), (0, u "java/lang/Object"), (0, u "<init>"), (0, u "()V"), (0, .string 8), (0, u ""), (0, .fieldref 10 11), (0, .class_ 12), (0, .nameAndType 13 14), (0, u "java/lang/String"), (0, u "value"), (0, u "[B"), (0, .fieldref 10 16), (0, .nameAndType 17 18), (0, u "coder"), (0, u "B"), (2, u "hash"), (0, u "I"), (2, u "hashIsZero"), (0, u "Z"), (0, .methodref 10 28), (0, .nameAndType 5 29), (0, u "([CIILjava/lang/Void;)V"), (8, .fieldref 10 39), (0, .nameAndType 40 26), (0, u "COMPACT_STRINGS"), (1, .class_ 44), (1, u "java/lang/StringUTF16"), (0, u "compress"), (1, .methodref 42 48), (0, .nameAndType 49 50), (0, u "coderFromArrayLen"), (0, u "([BI)B"), (2, u "toBytes"), (53, .class_ 109), (1, u "java/lang/StringLatin1"), (67, .methodref 42 178), (0, .nameAndType 45 179), (0, u "([CII)[B"), (29, .methodref 10 210), (0, .nameAndType 5 211), (0, u "([BB)V"), (157, u "(C)Z"), (205, .class_ 576), (0, u "java/lang/CharSequence"), (22, u "CASE_INSENSITIVE_ORDER"), (0, u "Ljava/util/Comparator;"), (181, u "valueOf"), (0, u "(C)Ljava/lang/String;"), (226, u "([C)V"), (4, .methodref 107 1016), (0, .nameAndType 1017 369), (0, u "canEncode"), (0, .methodref 107 1019), (0, .nameAndType 53 1020), (0, u "(C)[B"), (80, u "serialPersistentFields"), (0, u "[Ljava/io/ObjectStreamField;"), (0, .class_ 1104), (0, u "java/lang/String$CaseInsensitiveComparator"), (1, .class_ 1107), (0, u "java/io/Serializable"), (0, .class_ 1109), (0, u "java/lang/Comparable"), (0, .class_ 1111), (0, u "java/lang/constant/Constable"), (0, .class_ 1113), (0, u "java/lang/constant/ConstantDesc"), (2, u "serialVersionUID"), (0, u "J"), (3, u "REPL"), (0, u "C"), (2, u "LATIN1"), (1, u "UTF16")] 323

def k7m0 : Method := { name := "<init>", desc := "()V", sig := { parameters := [], returnType := none }, accessFlags := 1, code := none }
def k7c1 : Code := { maxStack := 5, maxLocals := 2, code := jdk_42_method_3_code, exceptionTable := #[], attributes := #[] }
def k7m1 : Method := { name := "<init>", desc := "([C)V", sig := { parameters := [(.array .char)], returnType := none }, accessFlags := 1, code := some k7c1 }
def k7c2 : Code := { maxStack := 4, maxLocals := 1, code := jdk_42_method_139_code, exceptionTable := #[], attributes := #[] }
def k7m2 : Method := { name := "valueOf", desc := "(C)Ljava/lang/String;", sig := { parameters := [.char], returnType := some (.object "java/lang/String") }, accessFlags := 9, code := some k7c2 }
def k7c3 : Code := { maxStack := 4, maxLocals := 6, code := jdk_42_method_149_code, exceptionTable := #[], attributes := #[] }
def k7m3 : Method := { name := "<init>", desc := "([CIILjava/lang/Void;)V", sig := { parameters := [(.array .char), .int, .int, (.object "java/lang/Void")], returnType := none }, accessFlags := 2, code := some k7c3 }
def k7c4 : Code := { maxStack := 2, maxLocals := 3, code := jdk_42_method_151_code, exceptionTable := #[], attributes := #[] }
def k7m4 : Method := { name := "<init>", desc := "([BB)V", sig := { parameters := [(.array .byte), .byte], returnType := none }, accessFlags := 0, code := some k7c4 }
/-- java/lang/String -/
def k7 : Class := { plain "java/lang/String" (some 0) with
  accessFlags := 49
  interfaces := #[2, 3, 4, 5, 6]
  cf := some (fileOf pool7 10 #[.nestMembers #[1103]] #[{ accessFlags := 1, nameIndex := 5, descriptorIndex := 6, attributes := #[] }, { accessFlags := 1, nameIndex := 5, descriptorIndex := 1010, attributes := #[] }, { accessFlags := 9, nameIndex := 782, descriptorIndex := 783, attributes := #[] }, { accessFlags := 2, nameIndex := 5, descriptorIndex := 29, attributes := #[] }, { accessFlags := 0, nameIndex := 5, descriptorIndex := 211, attributes := #[] }] 49 2 #[1106, 1108, 575, 1110, 1112] #[{ accessFlags := 18, nameIndex := 13, descriptorIndex := 14, attributes := #[] }, { accessFlags := 18, nameIndex := 17, descriptorIndex := 18, attributes := #[] }, { accessFlags := 2, nameIndex := 21, descriptorIndex := 22, attributes := #[] }, { accessFlags := 2, nameIndex := 25, descriptorIndex := 26, attributes := #[] }, { accessFlags := 26, nameIndex := 1116, descriptorIndex := 1117, attributes := #[] }, { accessFlags := 24, nameIndex := 40, descriptorIndex := 26, attributes := #[] }, { accessFlags := 26, nameIndex := 1101, descriptorIndex := 1102, attributes := #[] }, { accessFlags := 26, nameIndex := 1121, descriptorIndex := 1122, attributes := #[] }, { accessFlags := 25, nameIndex := 599, descriptorIndex := 600, attributes := #[] }, { accessFlags := 24, nameIndex := 1125, descriptorIndex := 18, attributes := #[] }, { accessFlags := 24, nameIndex := 1127, descriptorIndex := 18, attributes := #[] }])
  fields := #[{ name := "value", type := (.array .byte), accessFlags := 18, slot := 0, constantValue := 0 }, { name := "coder", type := .byte, accessFlags := 18, slot := 1, constantValue := 0 }, { name := "hash", type := .int, accessFlags := 2, slot := 2, constantValue := 0 }, { name := "hashIsZero", type := .boolean, accessFlags := 2, slot := 3, constantValue := 0 }, { name := "serialVersionUID", type := .long, accessFlags := 26, slot := 0, constantValue := 0 }, { name := "COMPACT_STRINGS", type := .boolean, accessFlags := 24, slot := 1, constantValue := 0 }, { name := "serialPersistentFields", type := (.array (.object "java/io/ObjectStreamField")), accessFlags := 26, slot := 2, constantValue := 0 }, { name := "REPL", type := .char, accessFlags := 26, slot := 3, constantValue := 0 }, { name := "CASE_INSENSITIVE_ORDER", type := (.object "java/util/Comparator"), accessFlags := 25, slot := 4, constantValue := 0 }, { name := "LATIN1", type := .byte, accessFlags := 24, slot := 5, constantValue := 0 }, { name := "UTF16", type := .byte, accessFlags := 24, slot := 6, constantValue := 0 }]
  methods := #[k7m0, k7m1, k7m2, k7m3, k7m4]
  instanceTypes := #[(.array .byte), .byte, .int, .boolean]
  staticTypes := #[.long, .boolean, (.array (.object "java/io/ObjectStreamField")), .char, (.object "java/util/Comparator"), .byte, .byte]
  resolved := Array.replicate 1451 none
  statics := some 0 }

def pool8 : Array CpInfo := pool [(4, .class_ 6), (1, u "java/lang/Object"), (0, u "<init>"), (0, u "()V"), (5, .class_ 16), (1, u "java/lang/StringLatin1"), (73, u "canEncode"), (14, u "(C)Z"), (15, u "$assertionsDisabled"), (0, u "Z"), (98, .class_ 223), (1, u "java/lang/StringLatin1$LinesSpliterator"), (156, u "toBytes"), (1, u "(C)[B"), (7, .class_ 391), (0, u "java/lang/StringLatin1$CharsSpliterator")] 3

def k8m0 : Method := { name := "<init>", desc := "()V", sig := { parameters := [], returnType := none }, accessFlags := 0, code := none }
def k8c1 : Code := { maxStack := 2, maxLocals := 1, code := jdk_43_method_3_code, exceptionTable := #[], attributes := #[] }
def k8m1 : Method := { name := "canEncode", desc := "(C)Z", sig := { parameters := [.char], returnType := some .boolean }, accessFlags := 9, code := some k8c1 }
def k8c2 : Code := { maxStack := 4, maxLocals := 1, code := jdk_43_method_46_code, exceptionTable := #[], attributes := #[] }
def k8m2 : Method := { name := "toBytes", desc := "(C)[B", sig := { parameters := [.char], returnType := some (.array .byte) }, accessFlags := 9, code := some k8c2 }
/-- java/lang/StringLatin1 -/
def k8 : Class := { plain "java/lang/StringLatin1" (some 0) with
  accessFlags := 48
  interfaces := #[]
  cf := some (fileOf pool8 14 #[.nestMembers #[390, 221]] #[{ accessFlags := 0, nameIndex := 7, descriptorIndex := 8, attributes := #[] }, { accessFlags := 9, nameIndex := 90, descriptorIndex := 105, attributes := #[] }, { accessFlags := 9, nameIndex := 380, descriptorIndex := 382, attributes := #[] }] 48 4 #[] #[{ accessFlags := 4120, nameIndex := 121, descriptorIndex := 122, attributes := #[] }])
  fields := #[{ name := "$assertionsDisabled", type := .boolean, accessFlags := 4120, slot := 0, constantValue := 0 }]
  methods := #[k8m0, k8m1, k8m2]
  instanceTypes := #[]
  staticTypes := #[.boolean]
  resolved := Array.replicate 395 none
  statics := none }

def pool9 : Array CpInfo := pool [(2, .class_ 4), (1, u "java/lang/Object"), (0, u "<init>"), (0, u "()V"), (1, .class_ 10), (1, u "com/example/brisk_lock/brisklock/HoldCount"), (0, u "count"), (0, u "I"), (2, .integer 2147483647), (11, u "oneMore"), (0, u "(ILjava/lang/String;)I")] 18

def k9m0 : Method := { name := "<init>", desc := "()V", sig := { parameters := [], returnType := none }, accessFlags := 0, code := none }
def k9c1 : Code := { maxStack := 4, maxLocals := 2, code := prog_15_method_2_code, exceptionTable := #[], attributes := #[] }
def k9m1 : Method := { name := "oneMore", desc := "(ILjava/lang/String;)I", sig := { parameters := [.int, (.object "java/lang/String")], returnType := some .int }, accessFlags := 8, code := some k9c1 }
/-- com/example/brisk_lock/brisklock/HoldCount -/
def k9 : Class := { plain "com/example/brisk_lock/brisklock/HoldCount" (some 0) with
  accessFlags := 32
  interfaces := #[]
  cf := some (fileOf pool9 8 #[] #[{ accessFlags := 0, nameIndex := 5, descriptorIndex := 6, attributes := #[] }, { accessFlags := 8, nameIndex := 27, descriptorIndex := 28, attributes := #[] }] 32 2 #[] #[{ accessFlags := 0, nameIndex := 11, descriptorIndex := 12, attributes := #[] }])
  fields := #[{ name := "count", type := .int, accessFlags := 0, slot := 0, constantValue := 0 }]
  methods := #[k9m0, k9m1]
  instanceTypes := #[.int]
  staticTypes := #[]
  resolved := Array.replicate 47 none
  statics := none }

def pool10 : Array CpInfo := pool [(6, .class_ 8), (1, u "java/lang/Object"), (0, u "<init>"), (0, u "()V"), (1, .class_ 14), (1, u "java/lang/StringUTF16"), (31, u "$assertionsDisabled"), (0, u "Z"), (13, u "HI_BYTE_SHIFT"), (0, u "I"), (2, u "LO_BYTE_SHIFT"), (49, .methodref 12 116), (0, .nameAndType 117 118), (0, u "compress"), (0, u "([CI[BII)I"), (3, u "([CII)[B"), (138, u "coderFromArrayLen"), (0, u "([BI)B"), (106, .class_ 371), (1, u "java/lang/StringUTF16$LinesSpliterator"), (58, u "MAX_LENGTH"), (196, .class_ 628), (0, u "java/lang/StringUTF16$CodePointsSpliterator"), (0, .class_ 630), (0, u "java/lang/StringUTF16$CharsSpliterator")] 4

def k10m0 : Method := { name := "<init>", desc := "()V", sig := { parameters := [], returnType := none }, accessFlags := 0, code := none }
def k10c1 : Code := { maxStack := 2, maxLocals := 2, code := jdk_52_method_15_code, exceptionTable := #[], attributes := #[] }
def k10m1 : Method := { name := "coderFromArrayLen", desc := "([BI)B", sig := { parameters := [(.array .byte), .int], returnType := some .byte }, accessFlags := 8, code := some k10c1 }
def k10c2 : Code := { maxStack := 5, maxLocals := 6, code := jdk_52_method_16_code, exceptionTable := #[], attributes := #[] }
def k10m2 : Method := { name := "compress", desc := "([CII)[B", sig := { parameters := [(.array .char), .int, .int], returnType := some (.array .byte) }, accessFlags := 9, code := some k10c2 }
def k10c3 : Code := { maxStack := 3, maxLocals := 7, code := jdk_52_method_21_code, exceptionTable := #[], attributes := #[] }
def k10m3 : Method := { name := "compress", desc := "([CI[BII)I", sig := { parameters := [(.array .char), .int, (.array .byte), .int, .int], returnType := some .int }, accessFlags := 9, code := some k10c3 }
/-- java/lang/StringUTF16 -/
def k10 : Class := { plain "java/lang/StringUTF16" (some 0) with
  accessFlags := 48
  interfaces := #[]
  cf := some (fileOf pool10 12 #[.nestMembers #[627, 629, 369]] #[{ accessFlags := 0, nameIndex := 9, descriptorIndex := 10, attributes := #[] }, { accessFlags := 8, nameIndex := 261, descriptorIndex := 262, attributes := #[] }, { accessFlags := 9, nameIndex := 117, descriptorIndex := 122, attributes := #[] }, { accessFlags := 9, nameIndex := 117, descriptorIndex := 118, attributes := #[] }] 48 6 #[] #[{ accessFlags := 26, nameIndex := 61, descriptorIndex := 62, attributes := #[] }, { accessFlags := 26, nameIndex := 65, descriptorIndex := 62, attributes := #[] }, { accessFlags := 24, nameIndex := 430, descriptorIndex := 62, attributes := #[] }, { accessFlags := 4120, nameIndex := 46, descriptorIndex := 47, attributes := #[] }])
  fields := #[{ name := "HI_BYTE_SHIFT", type := .int, accessFlags := 26, slot := 0, constantValue := 0 }, { name := "LO_BYTE_SHIFT", type := .int, accessFlags := 26, slot := 1, constantValue := 0 }, { name := "MAX_LENGTH", type := .int, accessFlags := 24, slot := 2, constantValue := 0 }, { name := "$assertionsDisabled", type := .boolean, accessFlags := 4120, slot := 3, constantValue := 0 }]
  methods := #[k10m0, k10m1, k10m2, k10m3]
  instanceTypes := #[]
  staticTypes := #[.int, .int, .int, .boolean]
  resolved := Array.replicate 635 none
  statics := none }

def pool11 : Array CpInfo := pool [(2, .class_ 4), (1, u "java/lang/Object"), (0, u "<init>"), (0, u "()V"), (17, .class_ 26), (1, u "jdk/internal/util/Preconditions"), (28, .class_ 56), (0, u "jdk/internal/util/Preconditions$4"), (57, .class_ 115), (0, u "jdk/internal/util/Preconditions$1"), (7, u "SIOOBE_FORMATTER"), (0, u "Ljava/util/function/BiFunction;"), (0, .class_ 126), (0, u "jdk/internal/util/Preconditions$2"), (3, u "AIOOBE_FORMATTER"), (0, .class_ 132), (0, u "jdk/internal/util/Preconditions$3"), (3, u "IOOBE_FORMATTER")] 57

def k11m0 : Method := { name := "<init>", desc := "()V", sig := { parameters := [], returnType := none }, accessFlags := 1, code := none }
/-- jdk/internal/util/Preconditions -/
def k11 : Class := { plain "jdk/internal/util/Preconditions" (some 0) with
  accessFlags := 33
  interfaces := #[]
  cf := some (fileOf pool11 24 #[.nestMembers #[55, 131, 125, 114]] #[{ accessFlags := 1, nameIndex := 5, descriptorIndex := 6, attributes := #[] }] 33 2 #[] #[{ accessFlags := 25, nameIndex := 123, descriptorIndex := 124, attributes := #[] }, { accessFlags := 25, nameIndex := 130, descriptorIndex := 124, attributes := #[] }, { accessFlags := 25, nameIndex := 136, descriptorIndex := 124, attributes := #[] }])
  fields := #[{ name := "SIOOBE_FORMATTER", type := (.object "java/util/function/BiFunction"), accessFlags := 25, slot := 0, constantValue := 0 }, { name := "AIOOBE_FORMATTER", type := (.object "java/util/function/BiFunction"), accessFlags := 25, slot := 1, constantValue := 0 }, { name := "IOOBE_FORMATTER", type := (.object "java/util/function/BiFunction"), accessFlags := 25, slot := 2, constantValue := 0 }]
  methods := #[k11m0]
  instanceTypes := #[]
  staticTypes := #[(.object "java/util/function/BiFunction"), (.object "java/util/function/BiFunction"), (.object "java/util/function/BiFunction")]
  resolved := Array.replicate 194 none
  statics := some 1 }

def pool12 : Array CpInfo := pool [(9, u "<init>"), (6, .class_ 18), (1, u "java/lang/Object"), (0, u "()V"), (1, .class_ 23), (1, u "jdk/internal/util/ArraysSupport"), (0, u "LOG2_ARRAY_LONG_INDEX_SCALE"), (0, u "I"), (2, u "U"), (0, u "Ljdk/internal/misc/Unsafe;"), (8, u "BIG_ENDIAN"), (0, u "Z"), (8, u "LOG2_BYTE_BIT_SIZE"), (4, u "LOG2_ARRAY_INT_INDEX_SCALE"), (54, u "JLA"), (0, u "Ljdk/internal/access/JavaLangAccess;"), (11, u "LOG2_ARRAY_BOOLEAN_INDEX_SCALE"), (9, u "LOG2_ARRAY_BYTE_INDEX_SCALE"), (5, u "LOG2_ARRAY_CHAR_INDEX_SCALE"), (5, u "LOG2_ARRAY_SHORT_INDEX_SCALE"), (18, u "LOG2_ARRAY_FLOAT_INDEX_SCALE"), (24, u "LOG2_ARRAY_DOUBLE_INDEX_SCALE"), (89, u "T_BOOLEAN"), (2, u "T_CHAR"), (1, u "T_FLOAT"), (1, u "T_DOUBLE"), (1, u "T_BYTE"), (1, u "T_SHORT"), (1, u "T_INT"), (1, u "T_LONG"), (1, u "SOFT_MAX_ARRAY_LENGTH")] 83

def k12m0 : Method := { name := "<init>", desc := "()V", sig := { parameters := [], returnType := none }, accessFlags := 2, code := none }
/-- jdk/internal/util/ArraysSupport -/
def k12 : Class := { plain "jdk/internal/util/ArraysSupport" (some 0) with
  accessFlags := 33
  interfaces := #[]
  cf := some (fileOf pool12 21 #[] #[{ accessFlags := 2, nameIndex := 9, descriptorIndex := 19, attributes := #[] }] 33 16 #[] #[{ accessFlags := 24, nameIndex := 28, descriptorIndex := 29, attributes := #[] }, { accessFlags := 26, nameIndex := 38, descriptorIndex := 39, attributes := #[] }, { accessFlags := 25, nameIndex := 121, descriptorIndex := 25, attributes := #[] }, { accessFlags := 25, nameIndex := 131, descriptorIndex := 25, attributes := #[] }, { accessFlags := 25, nameIndex := 137, descriptorIndex := 25, attributes := #[] }, { accessFlags := 25, nameIndex := 143, descriptorIndex := 25, attributes := #[] }, { accessFlags := 25, nameIndex := 53, descriptorIndex := 25, attributes := #[] }, { accessFlags := 25, nameIndex := 24, descriptorIndex := 25, attributes := #[] }, { accessFlags := 25, nameIndex := 162, descriptorIndex := 25, attributes := #[] }, { accessFlags := 25, nameIndex := 187, descriptorIndex := 25, attributes := #[] }, { accessFlags := 26, nameIndex := 48, descriptorIndex := 25, attributes := #[] }, { accessFlags := 25, nameIndex := 277, descriptorIndex := 25, attributes := #[] }, { accessFlags := 25, nameIndex := 280, descriptorIndex := 25, attributes := #[] }, { accessFlags := 25, nameIndex := 282, descriptorIndex := 25, attributes := #[] }, { accessFlags := 25, nameIndex := 284, descriptorIndex := 25, attributes := #[] }, { accessFlags := 25, nameIndex := 286, descriptorIndex := 25, attributes := #[] }, { accessFlags := 25, nameIndex := 288, descriptorIndex := 25, attributes := #[] }, { accessFlags := 25, nameIndex := 290, descriptorIndex := 25, attributes := #[] }, { accessFlags := 25, nameIndex := 292, descriptorIndex := 25, attributes := #[] }, { accessFlags := 26, nameIndex := 108, descriptorIndex := 109, attributes := #[] }, { accessFlags := 25, nameIndex := 294, descriptorIndex := 25, attributes := #[] }])
  fields := #[{ name := "U", type := (.object "jdk/internal/misc/Unsafe"), accessFlags := 24, slot := 0, constantValue := 0 }, { name := "BIG_ENDIAN", type := .boolean, accessFlags := 26, slot := 1, constantValue := 0 }, { name := "LOG2_ARRAY_BOOLEAN_INDEX_SCALE", type := .int, accessFlags := 25, slot := 2, constantValue := 0 }, { name := "LOG2_ARRAY_BYTE_INDEX_SCALE", type := .int, accessFlags := 25, slot := 3, constantValue := 0 }, { name := "LOG2_ARRAY_CHAR_INDEX_SCALE", type := .int, accessFlags := 25, slot := 4, constantValue := 0 }, { name := "LOG2_ARRAY_SHORT_INDEX_SCALE", type := .int, accessFlags := 25, slot := 5, constantValue := 0 }, { name := "LOG2_ARRAY_INT_INDEX_SCALE", type := .int, accessFlags := 25, slot := 6, constantValue := 0 }, { name := "LOG2_ARRAY_LONG_INDEX_SCALE", type := .int, accessFlags := 25, slot := 7, constantValue := 0 }, { name := "LOG2_ARRAY_FLOAT_INDEX_SCALE", type := .int, accessFlags := 25, slot := 8, constantValue := 0 }, { name := "LOG2_ARRAY_DOUBLE_INDEX_SCALE", type := .int, accessFlags := 25, slot := 9, constantValue := 0 }, { name := "LOG2_BYTE_BIT_SIZE", type := .int, accessFlags := 26, slot := 10, constantValue := 0 }, { name := "T_BOOLEAN", type := .int, accessFlags := 25, slot := 11, constantValue := 0 }, { name := "T_CHAR", type := .int, accessFlags := 25, slot := 12, constantValue := 0 }, { name := "T_FLOAT", type := .int, accessFlags := 25, slot := 13, constantValue := 0 }, { name := "T_DOUBLE", type := .int, accessFlags := 25, slot := 14, constantValue := 0 }, { name := "T_BYTE", type := .int, accessFlags := 25, slot := 15, constantValue := 0 }, { name := "T_SHORT", type := .int, accessFlags := 25, slot := 16, constantValue := 0 }, { name := "T_INT", type := .int, accessFlags := 25, slot := 17, constantValue := 0 }, { name := "T_LONG", type := .int, accessFlags := 25, slot := 18, constantValue := 0 }, { name := "JLA", type := (.object "jdk/internal/access/JavaLangAccess"), accessFlags := 26, slot := 19, constantValue := 0 }, { name := "SOFT_MAX_ARRAY_LENGTH", type := .int, accessFlags := 25, slot := 20, constantValue := 0 }]
  methods := #[k12m0]
  instanceTypes := #[]
  staticTypes := #[(.object "jdk/internal/misc/Unsafe"), .boolean, .int, .int, .int, .int, .int, .int, .int, .int, .int, .int, .int, .int, .int, .int, .int, .int, .int, (.object "jdk/internal/access/JavaLangAccess"), .int]
  resolved := Array.replicate 378 none
  statics := none }

def pool13 : Array CpInfo := pool [(1, u "java/lang/Cloneable"), (0, .class_ 1), (0, u "java/lang/Object"), (0, .class_ 3)] 3

/-- java/lang/Cloneable -/
def k13 : Class := { plain "java/lang/Cloneable" (some 0) with
  accessFlags := 1537
  interfaces := #[]
  cf := some (fileOf pool13 2 #[] #[] 1537 4 #[] #[])
  fields := #[]
  methods := #[]
  instanceTypes := #[]
  staticTypes := #[]
  resolved := Array.replicate 8 none
  statics := none }

/-- the primitive byte -/
def k14 : Class := { plain "byte" none with kind := .primitive 'B', accessFlags := 0x411 }
/-- [B -/
def k15 : Class := { plain "[B" (some 0) with kind := .array 14 .byte, interfaces := #[13, 2], accessFlags := 1041 }

/-- the primitive char -/
def k16 : Class := { plain "char" none with kind := .primitive 'C', accessFlags := 0x411 }
/-- [C -/
def k17 : Class := { plain "[C" (some 0) with kind := .array 16 .char, interfaces := #[13, 2], accessFlags := 1041 }

/-- the primitive int -/
def k18 : Class := { plain "int" none with kind := .primitive 'I', accessFlags := 0x411 }
/-- [I -/
def k19 : Class := { plain "[I" (some 0) with kind := .array 18 .int, interfaces := #[13, 2], accessFlags := 1041 }

def heap : Heap := #[{ cls := 7, slots := #[.long 0, .int 1, .null, .int 0, .null, .int 0, .int 0], vm := .statics 7 },
  { cls := 11, slots := #[.null, .null, .null], vm := .statics 11 }]
def classes : Array Class := #[k0, k1, k2, k3, k4, k5, k6, k7, k8, k9, k10, k11, k12, k13, k14, k15, k16, k17, k18, k19]
def interned : List (Array UInt16 × Addr) := []
def slotsUsed : Nat := 10
def theMethod : MethodId := ⟨1, 1⟩
def args0 : Array Value := #[.int 5, .int 7, .int 9, .int 2]
def aboutOver (below : List Frame) : State where
  vm := { classes := classes, interned := interned.toArray }
  heap := heap
  slotsUsed := slotsUsed
  threads := #[{ frames := .invoking theMethod args0 :: below }]
def below0 : List Frame := [.native { method := ⟨0, 0⟩, args := #[] }]
def about1 : State := aboutOver below0
def p0 : Program := .bare "" "" ""
def e0 : Env := launch0.env 0 0 0
theorem w_frames : about1.frames = Frame.invoking theMethod args0 :: below0 := rfl
set_option maxRecDepth 65536 in
theorem w_args : argsFit about1.vm theMethod args0 = true := by decide +kernel
set_option maxRecDepth 65536 in
theorem w_heap : heapFits about1 = true := by decide +kernel
set_option maxRecDepth 65536 in
theorem w_runnable : about1.curStatus? = some .runnable := by decide +kernel
set_option maxRecDepth 65536 in
theorem w_alone : about1.alone = true := by decide +kernel
set_option maxRecDepth 65536 in
theorem w_named : about1.methodNamed? x = some theMethod := by decide +kernel
set_option maxRecDepth 65536 in
theorem w_hears : about1.hears theMethod below0 = true := by decide +kernel
set_option maxRecDepth 65536 in
theorem w_ripe : about1.ripe theMethod args0 below0 = true := by decide +kernel
theorem w_running : about1.status = .running := rfl
set_option maxRecDepth 65536 in
theorem w_room : about1.hasRoom e0.platform room_1 = true :=
  launch0.hasRoom_least _ room_1 (by decide +kernel) (by decide +kernel) (by decide +kernel) (by decide +kernel) (by decide +kernel) (by decide +kernel)
theorem allAtoms_all (ts : List Jvm.Cond) (a : Array Jvm.Value) (st : Jvm.State) : (allAtoms ts).before a st = ts.all (fun c => c.before a st) := by
  induction ts with
  | nil => rfl
  | cons c t ih =>
    show (Jvm.Cond.and c (allAtoms t)).before a st = _
    rw [Jvm.Cond.before_and, ih, List.all_cons]
def words1 : List Jvm.Cond := Jvm.Cond.code x code maxLocals ret :: tables_1
/-- a 'code' word, met by the world's own term for the bytes: nothing is compared byte by byte -/
theorem code_word {y : MethodName} {bytes : ByteArray} {mx : Nat} {rt : Option FieldType} {a : Array Value} {s : State} {m : MethodId} {meth : Method} {c : Code} (h1 : s.methodNamed? y = some m) (h2 : s.vm.method? m = some meth) (h3 : meth.code = some c) (h4 : c.code = bytes)
    (h5 : (c.maxLocals == mx && c.exceptionTable.isEmpty && decide (c.maxStack ≤ mostOperands) && decide (meth.sig.returnType = rt) && !meth.locks && decide (parseMethodDescriptor y.desc = some meth.sig)) = true) : (Jvm.Cond.code y bytes mx rt).before a s = true := by
  simp only [Bool.and_eq_true, beq_iff_eq, Bool.not_eq_true', decide_eq_true_eq] at h5
  obtain ⟨⟨⟨⟨⟨g1, g2⟩, g3⟩, g4⟩, g5⟩, g6⟩ := h5
  simp [Cond.before, Cond.holds, Cond.value, h1, h2, h3, h4, g1, g2, g3, g4, g5, g6]
def isCode : Jvm.Cond → Bool
  | .code _ _ _ _ => true
  | _ => false
theorem all_split {L : List Jvm.Cond} {P : Jvm.Cond → Bool} (h1 : L.all (fun c => isCode c || P c) = true) (h2 : ∀ c ∈ L.filter isCode, P c = true) : L.all P = true := by
  refine List.all_eq_true.mpr fun c hc => ?_
  have h := List.all_eq_true.mp h1 c hc
  rcases Bool.eq_false_or_eq_true (isCode c) with hi | hi
  · exact h2 c (List.mem_filter.mpr ⟨hc, hi⟩)
  · simpa [hi] using h
set_option maxRecDepth 65536 in
theorem w_c0 : (Jvm.Cond.code x code maxLocals ret).before args0 about1 = true := code_word (m := ⟨1, 1⟩) (meth := k1m1) (c := k1c1) (by decide +kernel) rfl rfl rfl (by decide +kernel)
set_option maxRecDepth 65536 in
theorem w_c1 : (Jvm.Cond.code ({ cls := "java/lang/String", name := "valueOf", desc := "(C)Ljava/lang/String;" } : Jvm.MethodName) jdk_42_method_139_code (1 : Nat) (Option.some (Jvm.ClassFile.FieldType.object "java/lang/String"))).before args0 about1 = true := code_word (m := ⟨7, 2⟩) (meth := k7m2) (c := k7c2) (by decide +kernel) rfl rfl rfl (by decide +kernel)
set_option maxRecDepth 65536 in
theorem w_c2 : (Jvm.Cond.code ({ cls := "java/lang/StringLatin1", name := "canEncode", desc := "(C)Z" } : Jvm.MethodName) jdk_43_method_3_code (1 : Nat) (Option.some Jvm.ClassFile.FieldType.boolean)).before args0 about1 = true := code_word (m := ⟨8, 1⟩) (meth := k8m1) (c := k8c1) (by decide +kernel) rfl rfl rfl (by decide +kernel)
set_option maxRecDepth 65536 in
theorem w_c3 : (Jvm.Cond.code ({ cls := "java/lang/StringLatin1", name := "toBytes", desc := "(C)[B" } : Jvm.MethodName) jdk_43_method_46_code (1 : Nat) (Option.some (Jvm.ClassFile.FieldType.array Jvm.ClassFile.FieldType.byte))).before args0 about1 = true := code_word (m := ⟨8, 2⟩) (meth := k8m2) (c := k8c2) (by decide +kernel) rfl rfl rfl (by decide +kernel)
set_option maxRecDepth 65536 in
theorem w_c4 : (Jvm.Cond.code ({ cls := "java/lang/String", name := "<init>", desc := "([BB)V" } : Jvm.MethodName) jdk_42_method_151_code (3 : Nat) (Option.none : Option Jvm.ClassFile.FieldType)).before args0 about1 = true := code_word (m := ⟨7, 4⟩) (meth := k7m4) (c := k7c4) (by decide +kernel) rfl rfl rfl (by decide +kernel)
set_option maxRecDepth 65536 in
theorem w_c5 : (Jvm.Cond.code ({ cls := "java/lang/Object", name := "<init>", desc := "()V" } : Jvm.MethodName) object_method_1_code (1 : Nat) (Option.none : Option Jvm.ClassFile.FieldType)).before args0 about1 = true := code_word (m := ⟨0, 0⟩) (meth := k0m0) (c := k0c0) (by decide +kernel) rfl rfl rfl (by decide +kernel)
set_option maxRecDepth 65536 in
theorem w_c6 : (Jvm.Cond.code ({ cls := "com/example/brisk_lock/brisklock/HoldCount", name := "oneMore", desc := "(ILjava/lang/String;)I" } : Jvm.MethodName) prog_15_method_2_code (2 : Nat) (Option.some Jvm.ClassFile.FieldType.int)).before args0 about1 = true := code_word (m := ⟨9, 1⟩) (meth := k9m1) (c := k9c1) (by decide +kernel) rfl rfl rfl (by decide +kernel)
set_option maxRecDepth 65536 in
theorem w_c7 : (Jvm.Cond.code ({ cls := "java/lang/String", name := "<init>", desc := "([C)V" } : Jvm.MethodName) jdk_42_method_3_code (2 : Nat) (Option.none : Option Jvm.ClassFile.FieldType)).before args0 about1 = true := code_word (m := ⟨7, 1⟩) (meth := k7m1) (c := k7c1) (by decide +kernel) rfl rfl rfl (by decide +kernel)
set_option maxRecDepth 65536 in
theorem w_c8 : (Jvm.Cond.code ({ cls := "java/lang/String", name := "<init>", desc := "([CIILjava/lang/Void;)V" } : Jvm.MethodName) jdk_42_method_149_code (6 : Nat) (Option.none : Option Jvm.ClassFile.FieldType)).before args0 about1 = true := code_word (m := ⟨7, 3⟩) (meth := k7m3) (c := k7c3) (by decide +kernel) rfl rfl rfl (by decide +kernel)
set_option maxRecDepth 65536 in
theorem w_c9 : (Jvm.Cond.code ({ cls := "java/lang/StringUTF16", name := "compress", desc := "([CII)[B" } : Jvm.MethodName) jdk_52_method_16_code (6 : Nat) (Option.some (Jvm.ClassFile.FieldType.array Jvm.ClassFile.FieldType.byte))).before args0 about1 = true := code_word (m := ⟨10, 2⟩) (meth := k10m2) (c := k10c2) (by decide +kernel) rfl rfl rfl (by decide +kernel)
set_option maxRecDepth 65536 in
theorem w_c10 : (Jvm.Cond.code ({ cls := "java/lang/StringUTF16", name := "compress", desc := "([CI[BII)I" } : Jvm.MethodName) jdk_52_method_21_code (7 : Nat) (Option.some Jvm.ClassFile.FieldType.int)).before args0 about1 = true := code_word (m := ⟨10, 3⟩) (meth := k10m3) (c := k10c3) (by decide +kernel) rfl rfl rfl (by decide +kernel)
set_option maxRecDepth 65536 in
theorem w_c11 : (Jvm.Cond.code ({ cls := "java/lang/StringUTF16", name := "coderFromArrayLen", desc := "([BI)B" } : Jvm.MethodName) jdk_52_method_15_code (2 : Nat) (Option.some Jvm.ClassFile.FieldType.byte)).before args0 about1 = true := code_word (m := ⟨10, 1⟩) (meth := k10m1) (c := k10c1) (by decide +kernel) rfl rfl rfl (by decide +kernel)
def codes1 : List Jvm.Cond := [Jvm.Cond.code x code maxLocals ret, Jvm.Cond.code ({ cls := "java/lang/String", name := "valueOf", desc := "(C)Ljava/lang/String;" } : Jvm.MethodName) jdk_42_method_139_code (1 : Nat) (Option.some (Jvm.ClassFile.FieldType.object "java/lang/String")), Jvm.Cond.code ({ cls := "java/lang/StringLatin1", name := "canEncode", desc := "(C)Z" } : Jvm.MethodName) jdk_43_method_3_code (1 : Nat) (Option.some Jvm.ClassFile.FieldType.boolean), Jvm.Cond.code ({ cls := "java/lang/StringLatin1", name := "toBytes", desc := "(C)[B" } : Jvm.MethodName) jdk_43_method_46_code (1 : Nat) (Option.some (Jvm.ClassFile.FieldType.array Jvm.ClassFile.FieldType.byte)), Jvm.Cond.code ({ cls := "java/lang/String", name := "<init>", desc := "([BB)V" } : Jvm.MethodName) jdk_42_method_151_code (3 : Nat) (Option.none : Option Jvm.ClassFile.FieldType), Jvm.Cond.code ({ cls := "java/lang/Object", name := "<init>", desc := "()V" } : Jvm.MethodName) object_method_1_code (1 : Nat) (Option.none : Option Jvm.ClassFile.FieldType), Jvm.Cond.code ({ cls := "com/example/brisk_lock/brisklock/HoldCount", name := "oneMore", desc := "(ILjava/lang/String;)I" } : Jvm.MethodName) prog_15_method_2_code (2 : Nat) (Option.some Jvm.ClassFile.FieldType.int), Jvm.Cond.code ({ cls := "java/lang/String", name := "<init>", desc := "([C)V" } : Jvm.MethodName) jdk_42_method_3_code (2 : Nat) (Option.none : Option Jvm.ClassFile.FieldType), Jvm.Cond.code ({ cls := "java/lang/String", name := "<init>", desc := "([CIILjava/lang/Void;)V" } : Jvm.MethodName) jdk_42_method_149_code (6 : Nat) (Option.none : Option Jvm.ClassFile.FieldType), Jvm.Cond.code ({ cls := "java/lang/StringUTF16", name := "compress", desc := "([CII)[B" } : Jvm.MethodName) jdk_52_method_16_code (6 : Nat) (Option.some (Jvm.ClassFile.FieldType.array Jvm.ClassFile.FieldType.byte)), Jvm.Cond.code ({ cls := "java/lang/StringUTF16", name := "compress", desc := "([CI[BII)I" } : Jvm.MethodName) jdk_52_method_21_code (7 : Nat) (Option.some Jvm.ClassFile.FieldType.int), Jvm.Cond.code ({ cls := "java/lang/StringUTF16", name := "coderFromArrayLen", desc := "([BI)B" } : Jvm.MethodName) jdk_52_method_15_code (2 : Nat) (Option.some Jvm.ClassFile.FieldType.byte)]
set_option maxRecDepth 65536 in
theorem codes_eq : words1.filter isCode = codes1 := rfl
theorem w_codes : ∀ c ∈ words1.filter isCode, c.before args0 about1 = true := by
  rw [codes_eq]
  intro c hc
  simp only [codes1, List.mem_cons, List.not_mem_nil, or_false] at hc
  rcases hc with rfl | rfl | rfl | rfl | rfl | rfl | rfl | rfl | rfl | rfl | rfl | rfl
  · exact w_c0
  · exact w_c1
  · exact w_c2
  · exact w_c3
  · exact w_c4
  · exact w_c5
  · exact w_c6
  · exact w_c7
  · exact w_c8
  · exact w_c9
  · exact w_c10
  · exact w_c11
set_option maxRecDepth 65536 in
theorem w_t1 : (words1.take 24).all (fun c => isCode c || c.before args0 about1) = true := by decide +kernel
set_option maxRecDepth 65536 in
theorem w_t2 : ((words1.drop 24).take 24).all (fun c => isCode c || c.before args0 about1) = true := by decide +kernel
set_option maxRecDepth 65536 in
theorem w_t3 : ((words1.drop 24).drop 24).all (fun c => isCode c || c.before args0 about1) = true := by decide +kernel
theorem w_tables : (allAtoms (Jvm.Cond.code x code maxLocals ret :: tables_1)).before args0 about1 = true := by
  rw [allAtoms_all]
  show words1.all (fun c => c.before args0 about1) = true
  refine all_split ?_ w_codes
  rw [← List.take_append_drop 24 words1, List.all_append, w_t1, ← List.take_append_drop 24 (words1.drop 24), List.all_append, w_t2, w_t3]
  rfl
set_option maxRecDepth 65536 in
theorem w_rest : rest_1_c.before args0 about1 = true := by decide +kernel
set_option maxRecDepth 65536 in
theorem w_case : (Jvm.Cond.and given_1 narrow_1).before args0 about1 = true := by decide +kernel
set_option maxRecDepth 65536 in
theorem w_consts : constsHeld consts_1 about1 := Jvm.Lit.constsHeldB_iff.mp (by decide +kernel)
theorem w_applies : (headSpec (Jvm.Cond.code x code maxLocals ret :: tables_1) room_1).applies x e0.platform about1 = true :=
  (Spec.applies_iff w_frames).mpr ⟨w_running, w_runnable, w_alone, w_named, w_hears, w_ripe, w_room, w_tables⟩
theorem atStart : AtStart classFile x code maxLocals ret World_1 tables_1 room_1 Calls_1 rest_1 Pre_1 launch0 p0 e0 about1 theMethod args0 below0 :=
  ⟨lists_1, trivial, launch0.admits_env _ _ _, launch0.least_env, fairChoices_fair.cas, fairChoices_fair.clock, w_frames, w_args, w_heap, w_applies, ⟨w_consts, trivial⟩, w_rest, w_case⟩
end start1
theorem witness_1 : WitnessClaimed_1 := ⟨start1.p0, start1.e0, start1.about1, start1.theMethod, start1.args0, start1.below0, start1.atStart⟩
end Jvm.Pilot.@@N@@
