import JvmDerived
import JvmDerived.Pilot.@@N@@Statement
import JvmDerived.Pilot.@@N@@Code
set_option linter.unusedVariables false
set_option linter.unusedSimpArgs false
namespace Jvm.RoadKit
open Sem ClassFile Op Lib Jvm.Stand Jvm.Free Jvm.LawKit
section New
variable {p : Program} {l : Launch} {e : Env} {R : Room} {s : State} {m : MethodId} {args : Array Value} {below : List Frame} {meth : Method} {c : Code} {T : State} {locs : List Loc} {cells slots : Nat}
theorem retI (X : Stand p l e R s m args below meth c T locs cells slots) (hx : p.tables.exec = Jvm.exec) {pc : Nat} {Ls : Array Slot} {z : Int32} {rest : List Value} (hret : meth.sig.returnType = some .int) (hd : decode c.code pc = .ok (.ireturn, 1)) {fs : List Frame}
    (hl : ∀ (f : JFrame) (acts : List Action), f.method = m → f.locked = none → f.entered = [] → (doReturn e (T.setTop f) acts (some (.int z))).1 = T.setFrames fs) : Steps p.tables e below (T.setTop (mkF m pc Ls (.int z :: rest))) (T.setFrames fs) := by
  have hm' : T.vm.method? m = some meth := X.method'
  have hn : narrow .int (.int z) = .int z := rfl
  show Steps p.tables e below (T.setTop { method := m, pc := pc, locals := Ls, stack := _ :: rest, locked := none }) _
  jvm_step X.here [X.here.top, hx, hd, hm', hret, hn]
  first | (intro acts; rw [hl _ acts rfl rfl rfl]) | rw [hl _ _ rfl rfl rfl]
  exact Steps.refl _
end New
end Jvm.RoadKit
namespace Jvm.Pilot.@@N@@
open Jvm Jvm.ClassFile Sem Op Lib Jvm.Free Jvm.Stand Jvm.LawKit Jvm.RoadKit Bundle Jvm.Pilot.@@N@@.Jvm.D
section Own
variable {p : Program} {l : Launch} {e : Env} {R : Room} {s : State} {m : MethodId} {args : Array Value} {below : List Frame} {meth : Method} {c : Code} {T : State} {Z : State} {h : Heap} {n0 kc ks cells slots ml pc pc' pt : Nat} {Q : Option Value → Heap → Prop} {bc : ByteArray} {y : MethodName} {rt : Option FieldType} {L L' : Array Slot} {S : List Value} {a0 : Array Value} {b : Bool} {I J : Vm → Prop}
def oSt (I : Vm → Prop) : Prop := ∀ (s : State) (vm : Vm), s.WarmedH vm → I s.vm → I vm
theorem oSt.tt : oSt (fun _ => True) := fun _ _ _ _ => trivial
theorem oSt.ib {Z : State} : oSt (fun vm => IB Z vm []) := fun s vm hW ⟨more, q1, q2⟩ => ⟨more, by rw [← q1]; exact hW.interned_eq, q2⟩
theorem oSt.lit {Z : State} {own : String} {i : Nat} {a : Addr} : oSt (fun vm => Lit (Z.setVm vm) own i a) := fun s vm hW q => State.resolvedAt?_warmed39 (s := Z.setVm s.vm) (vm' := vm) (by exact hW.wide) q
def oG (p : Program) (e : Env) (below : List Frame) (s : State) (n0 kc ks : Nat) (J : Vm → Prop) (Q : Option Value → Heap → Prop) (U : State) : Prop :=
  ∃ s₂ o, Steps p.tables e below U s₂ ∧ s₂.status = .running ∧ Ended s₂ below o ∧ ∃ v L, o = .returned v ∧ (Q v s₂.heap ∧ Fr n0 L ∧ J s₂.vm) ∧ ReturnedEndW s o s₂ L kc ks
/-- b: nothing that stood when the method was entered has been written; I: what is known of the tables -/
def oH (p : Program) (l : Launch) (e : Env) (R : Room) (s : State) (m : MethodId) (args : Array Value) (below : List Frame) (meth : Method) (c : Code) (bc : ByteArray) (ml : Nat) (y : MethodName) (rt : Option FieldType) (Z : State) (n0 : Nat) (T : State) (h : Heap) (cells slots : Nat) (b : Bool) (I : Vm → Prop) : Prop :=
  ∃ vm0 k0 locs, Stand p l e R (s.setVm vm0) m args below meth c T locs cells slots ∧ T.heap = h ∧ Fr n0 locs ∧ p.tables.exec = Jvm.exec ∧ c.code = bc ∧ c.maxLocals = ml ∧ Z.Warmed39 vm0 ∧ vm0.findClass y.cls = some m.cls ∧ meth.name = y.name ∧ meth.sig.returnType = rt ∧ meth.locks = false ∧ n0 ≤ s.heap.size ∧ s.Since vm0 k0 ∧ k0 ≤ h.size ∧ (b = true → Ext Z.heap s.heap ∧ Fr s.heap.size locs) ∧ I vm0
theorem oG.go {U U' : State} (f : ∀ t, Steps p.tables e below U' t → Steps p.tables e below U t) (k : oG p e below s n0 kc ks J Q U') : oG p e below s n0 kc ks J Q U := by
  obtain ⟨s2, o, h1, r⟩ := k
  exact ⟨s2, o, f _ h1, r⟩
theorem oH.le (H : oH p l e R s m args below meth c bc ml y rt Z n0 T h cells slots b I) : n0 ≤ h.size := by
  obtain ⟨vm0, k0, locs, X, eT, N, -, -, -, -, -, -, -, -, hn, -⟩ := H
  have q : s.heap.size ≤ T.heap.size := X.same.2.1
  rw [← eT]; exact Nat.le_trans hn q
theorem oH.weak (H : oH p l e R s m args below meth c bc ml y rt Z n0 T h cells slots b I) {J : Vm → Prop} (f : ∀ vm, I vm → J vm) : oH p l e R s m args below meth c bc ml y rt Z n0 T h cells slots false J := by
  obtain ⟨vm0, k0, locs, X, eT, N, hx, hby, hml, hZ, hown, hnm, hret, hlk, hn, hS, hk, hB, hI⟩ := H
  exact ⟨vm0, k0, locs, X, eT, N, hx, hby, hml, hZ, hown, hnm, hret, hlk, hn, hS, hk, fun q => (nomatch q), f _ hI⟩
/-- a method's contract: called with these arguments at the heap h0 it comes back with Q, within the room -/
def oC (l : Launch) (Z : State) (n0 : Nat) (I J : Vm → Prop) (y : MethodName) (bc : ByteArray) (ml : Nat) (rt : Option FieldType) (rm : Room) (kc ks : Nat) (as' : Array Value) (h0 : Heap) (Q : Option Value → Heap → Prop) : Prop :=
  ∀ ws : List Jvm.Cond, MetFree l y (head1 (Jvm.Cond.code y bc ml rt :: ws) rm) (fun a U => a = as' ∧ Z.Warmed39 U.vm ∧ U.heap = h0 ∧ I U.vm) (fun _ _ _ _ _ => True) (fun _ U o U' => ∃ v L, o = .returned v ∧ (Q v U'.heap ∧ Fr n0 L ∧ J U'.vm) ∧ ReturnedEndW U o U' L kc ks)
theorem oC.of {rm : Room} {as' : Array Value} {h0 : Heap} (hpl : plainFor y = true) (hn : n0 ≤ h0.size) (hbE : b = true → Ext Z.heap h0) (hef : ∀ m, entryFrame m as' ml = mkF m 0 L [])
    (body : ∀ (p : Program) (e : Env) (s : State) (m : MethodId) (below : List Frame) (meth : Method) (c : Code) (T : State), oH p l e rm s m as' below meth c bc ml y rt Z n0 T h0 0 0 b I → oG p e below s n0 kc ks J Q (T.setTop (mkF m 0 L []))) : oC l Z n0 I J y bc ml rt rm kc ks as' h0 Q := by
  intro ws
  refine MetFree.of_bodySF hpl hisR ?_
  intro p e s m args below meth c s₁ Bd hml0 hP hK
  obtain ⟨rfl, hZ, hh, hI⟩ := hP
  have X0 : Stand p l e rm s m args below meth c s₁ [] 0 0 := Stand.of_body Bd
  have e0 : s₁.heap = h0 := by rw [← hh, Bd.state]; rfl
  have k := body p e s m below meth c s₁ ⟨s.vm, 0, [], X0, e0, Fr.nil n0, Bd.exec, Bd.bytes, hml0, hZ, findClass_of_methodNamed Bd.named, (name_of_methodNamed Bd.named Bd.method).1, Bd.returns, Bd.notSynchronized, by rw [hh]; exact hn, (State.WarmedH.refl s).since 0, Nat.zero_le _, fun q => ⟨by rw [hh]; exact hbE q, Fr.nil _⟩, hI⟩
  rw [hef m]; exact k
theorem oC.mono {rm : Room} {as' : Array Value} {h0 : Heap} {Q' : Option Value → Heap → Prop} (k : oC l Z n0 I J y bc ml rt rm kc ks as' h0 Q') (f : ∀ v h, Q' v h → Q v h) : oC l Z n0 I J y bc ml rt rm kc ks as' h0 Q := by
  intro ws p e h1 h2 h3 s m args below h4 h5 h6 h7
  obtain ⟨n, o, a1, a2, a3, v, L, a4, ⟨a5, a6⟩, a7⟩ := k ws p e h1 h2 h3 s m args below h4 h5 h6 h7
  exact ⟨n, o, a1, a2, a3, v, L, a4, ⟨f _ _ a5, a6⟩, a7⟩
theorem o_back {yc : MethodName} {bytes : ByteArray} {maxL : Nat} {ret : Option FieldType} {rm : Room} {len W : Nat} {as' : Array Value} {Q' : Option Value → Heap → Prop}
    (con : oC l Z n0 I J yc bytes maxL ret rm rm.cells rm.slots as' h Q') (hZ : Z.Warmed39 s.vm) (hI : I s.vm) (hst : oSt I) (wc : (Jvm.Cond.code yc bytes maxL ret).before a0 Z = true) (wz : (Jvm.Cond.initialized yc.cls).before a0 Z = true) (hf : rm.frames + 1 ≤ R.frames) (hl : W + (maxL + 11) + rm.locals ≤ R.locals) :
    BackS l R p e below s args yc len W (fun A a => a = as' ∧ A.U.heap = h ∧ A.cells + rm.cells ≤ R.cells ∧ A.slots + rm.slots ≤ R.slots)
      (fun A _ v B => ∃ L, (Q' v B.U.heap ∧ Fr n0 L ∧ J B.U.vm) ∧ B.locs = A.locs ++ L ∧ B.cells = A.cells + rm.cells ∧ B.slots = A.slots + rm.slots) :=
  BackS.of_freeW (bytes := bytes) (maxL := maxL) (ret := ret) (E := fun _ _ o t L k n => k = rm.cells ∧ n = rm.slots ∧ ∃ v, o = .returned v ∧ (Q' v t.heap ∧ Fr n0 L ∧ J t.vm)) (con []) hf hl
    (fun m meth c A a Y hp => have hU : Z.Warmed39 A.U.vm := wtrans hZ Y.warmed
      ⟨by show (Jvm.Cond.and _ .tt).before a A.U = true; rw [Cond.before_and, mv hU wc]; rfl, mv hU wc, mv hU wz, hp.2.2.1, hp.2.2.2⟩)
    (fun m meth c A a g mk Y hp => ⟨hp.1, wtrans hZ Y.warmed, hp.2.1, hst s _ Y.warmed hI⟩) (fun _ _ _ _ _ _ _ _ _ => trivial)
    (fun _ _ _ _ ⟨v, L, h1, h2, h3⟩ => ⟨L, _, _, h3, rfl, rfl, v, h1, h2⟩)
    (fun m meth c A a g mk v t L k n Y hp _ _ ⟨e1, e2, v', e3, e4⟩ => by cases e3; subst e1 e2; exact ⟨L, e4, rfl, rfl, rfl⟩)
theorem o_aloadN (H : oH p l e R s m args below meth c bc ml y rt Z n0 T h cells slots b I) {k : Fin 4} {v : Value} (hl : L[k.val]? = some (.val v)) (hv : v.isRef = true) (hd : decode bc pc = .ok (.aload_n k, 1)) (hp : pc + 1 = pc') (k : oG p e below s n0 kc ks J Q (T.setTop (mkF m pc' L (v :: S)))) : oG p e below s n0 kc ks J Q (T.setTop (mkF m pc L S)) := by
  obtain ⟨vm0, k0, locs, X, eT, N, hx, hby, hml, hZ, hown, hnm, hret, hlk, hn, hS, hk, hB, hI⟩ := H
  subst hp
  exact oG.go (fun t hr => XS.aloadN X.here hx rfl (hb hby hd) hl hv hr) k
theorem o_iloadN (H : oH p l e R s m args below meth c bc ml y rt Z n0 T h cells slots b I) {k : Fin 4} {v : Int32} (hl : L[k.val]? = some (.val (.int v))) (hd : decode bc pc = .ok (.iload_n k, 1)) (hp : pc + 1 = pc') (k : oG p e below s n0 kc ks J Q (T.setTop (mkF m pc' L (.int v :: S)))) : oG p e below s n0 kc ks J Q (T.setTop (mkF m pc L S)) := by
  obtain ⟨vm0, k0, locs, X, eT, N, hx, hby, hml, hZ, hown, hnm, hret, hlk, hn, hS, hk, hB, hI⟩ := H
  subst hp
  exact oG.go (fun t hr => XS.iloadN X.here hx rfl (hb hby hd) hl hr) k
theorem o_lloadN (H : oH p l e R s m args below meth c bc ml y rt Z n0 T h cells slots b I) {k : Fin 4} {v : Int64} (hl : L[k.val]? = some (.val (.long v))) (hd : decode bc pc = .ok (.lload_n k, 1)) (hp : pc + 1 = pc') (k : oG p e below s n0 kc ks J Q (T.setTop (mkF m pc' L (.long v :: S)))) : oG p e below s n0 kc ks J Q (T.setTop (mkF m pc L S)) := by
  obtain ⟨vm0, k0, locs, X, eT, N, hx, hby, hml, hZ, hown, hnm, hret, hlk, hn, hS, hk, hB, hI⟩ := H
  subst hp
  exact oG.go (fun t hr => XT.lloadN X.here hx rfl (hb hby hd) hl hr) k
theorem o_astoreN (H : oH p l e R s m args below meth c bc ml y rt Z n0 T h cells slots b I) {k : Fin 4} {v : Value} (hl : storeLocals L k.val v = some L') (hv : v.isRef = true) (hd : decode bc pc = .ok (.astore_n k, 1)) (hp : pc + 1 = pc') (k : oG p e below s n0 kc ks J Q (T.setTop (mkF m pc' L' S))) : oG p e below s n0 kc ks J Q (T.setTop (mkF m pc L (v :: S))) := by
  obtain ⟨vm0, k0, locs, X, eT, N, hx, hby, hml, hZ, hown, hnm, hret, hlk, hn, hS, hk, hB, hI⟩ := H
  subst hp
  exact oG.go (fun t hr => XS.astoreN X.here hx rfl (hb hby hd) rfl hv hl hr) k
theorem o_istoreN (H : oH p l e R s m args below meth c bc ml y rt Z n0 T h cells slots b I) {k : Fin 4} {v : Int32} (hl : storeLocals L k.val (.int v) = some L') (hd : decode bc pc = .ok (.istore_n k, 1)) (hp : pc + 1 = pc') (k : oG p e below s n0 kc ks J Q (T.setTop (mkF m pc' L' S))) : oG p e below s n0 kc ks J Q (T.setTop (mkF m pc L (.int v :: S))) := by
  obtain ⟨vm0, k0, locs, X, eT, N, hx, hby, hml, hZ, hown, hnm, hret, hlk, hn, hS, hk, hB, hI⟩ := H
  subst hp
  exact oG.go (fun t hr => XS.istoreN X.here hx rfl (hb hby hd) rfl hl hr) k
theorem o_lstoreN (H : oH p l e R s m args below meth c bc ml y rt Z n0 T h cells slots b I) {k : Fin 4} {v : Int64} (hl : storeLocals L k.val (.long v) = some L') (hd : decode bc pc = .ok (.lstore_n k, 1)) (hp : pc + 1 = pc') (k : oG p e below s n0 kc ks J Q (T.setTop (mkF m pc' L' S))) : oG p e below s n0 kc ks J Q (T.setTop (mkF m pc L (.long v :: S))) := by
  obtain ⟨vm0, k0, locs, X, eT, N, hx, hby, hml, hZ, hown, hnm, hret, hlk, hn, hS, hk, hB, hI⟩ := H
  subst hp
  exact oG.go (fun t hr => XT.lstoreN X.here hx rfl (hb hby hd) rfl hl hr) k
theorem o_aload (H : oH p l e R s m args below meth c bc ml y rt Z n0 T h cells slots b I) {k : Nat} {v : Value} (hl : L[k]? = some (.val v)) (hv : v.isRef = true) (hd : decode bc pc = .ok (.aload k, 2)) (hp : pc + 2 = pc') (k : oG p e below s n0 kc ks J Q (T.setTop (mkF m pc' L (v :: S)))) : oG p e below s n0 kc ks J Q (T.setTop (mkF m pc L S)) := by
  obtain ⟨vm0, k0, locs, X, eT, N, hx, hby, hml, hZ, hown, hnm, hret, hlk, hn, hS, hk, hB, hI⟩ := H
  subst hp
  exact oG.go (fun t hr => XS.aload X.here hx rfl (hb hby hd) hl hv hr) k
theorem o_iload (H : oH p l e R s m args below meth c bc ml y rt Z n0 T h cells slots b I) {k : Nat} {v : Int32} (hl : L[k]? = some (.val (.int v))) (hd : decode bc pc = .ok (.iload k, 2)) (hp : pc + 2 = pc') (k : oG p e below s n0 kc ks J Q (T.setTop (mkF m pc' L (.int v :: S)))) : oG p e below s n0 kc ks J Q (T.setTop (mkF m pc L S)) := by
  obtain ⟨vm0, k0, locs, X, eT, N, hx, hby, hml, hZ, hown, hnm, hret, hlk, hn, hS, hk, hB, hI⟩ := H
  subst hp
  exact oG.go (fun t hr => XS.iload X.here hx rfl (hb hby hd) hl hr) k
theorem o_lload (H : oH p l e R s m args below meth c bc ml y rt Z n0 T h cells slots b I) {k : Nat} {v : Int64} (hl : L[k]? = some (.val (.long v))) (hd : decode bc pc = .ok (.lload k, 2)) (hp : pc + 2 = pc') (k : oG p e below s n0 kc ks J Q (T.setTop (mkF m pc' L (.long v :: S)))) : oG p e below s n0 kc ks J Q (T.setTop (mkF m pc L S)) := by
  obtain ⟨vm0, k0, locs, X, eT, N, hx, hby, hml, hZ, hown, hnm, hret, hlk, hn, hS, hk, hB, hI⟩ := H
  subst hp
  exact oG.go (fun t hr => XT.lload X.here hx rfl (hb hby hd) hl hr) k
theorem o_astore (H : oH p l e R s m args below meth c bc ml y rt Z n0 T h cells slots b I) {k : Nat} {v : Value} (hl : storeLocals L k v = some L') (hv : v.isRef = true) (hd : decode bc pc = .ok (.astore k, 2)) (hp : pc + 2 = pc') (k : oG p e below s n0 kc ks J Q (T.setTop (mkF m pc' L' S))) : oG p e below s n0 kc ks J Q (T.setTop (mkF m pc L (v :: S))) := by
  obtain ⟨vm0, k0, locs, X, eT, N, hx, hby, hml, hZ, hown, hnm, hret, hlk, hn, hS, hk, hB, hI⟩ := H
  subst hp
  exact oG.go (fun t hr => XS.astore X.here hx rfl (hb hby hd) rfl hv hl hr) k
theorem o_istore (H : oH p l e R s m args below meth c bc ml y rt Z n0 T h cells slots b I) {k : Nat} {v : Int32} (hl : storeLocals L k (.int v) = some L') (hd : decode bc pc = .ok (.istore k, 2)) (hp : pc + 2 = pc') (k : oG p e below s n0 kc ks J Q (T.setTop (mkF m pc' L' S))) : oG p e below s n0 kc ks J Q (T.setTop (mkF m pc L (.int v :: S))) := by
  obtain ⟨vm0, k0, locs, X, eT, N, hx, hby, hml, hZ, hown, hnm, hret, hlk, hn, hS, hk, hB, hI⟩ := H
  subst hp
  exact oG.go (fun t hr => XS.istore X.here hx rfl (hb hby hd) rfl hl hr) k
theorem o_lstore (H : oH p l e R s m args below meth c bc ml y rt Z n0 T h cells slots b I) {k : Nat} {v : Int64} (hl : storeLocals L k (.long v) = some L') (hd : decode bc pc = .ok (.lstore k, 2)) (hp : pc + 2 = pc') (k : oG p e below s n0 kc ks J Q (T.setTop (mkF m pc' L' S))) : oG p e below s n0 kc ks J Q (T.setTop (mkF m pc L (.long v :: S))) := by
  obtain ⟨vm0, k0, locs, X, eT, N, hx, hby, hml, hZ, hown, hnm, hret, hlk, hn, hS, hk, hB, hI⟩ := H
  subst hp
  exact oG.go (fun t hr => XT.lstore X.here hx rfl (hb hby hd) rfl hl hr) k
theorem o_iconst (H : oH p l e R s m args below meth c bc ml y rt Z n0 T h cells slots b I) {i : Int} (v : Int32) (hv : Int32.ofInt i = v) (hd : decode bc pc = .ok (.iconst i, 1)) (hp : pc + 1 = pc') (k : oG p e below s n0 kc ks J Q (T.setTop (mkF m pc' L (.int v :: S)))) : oG p e below s n0 kc ks J Q (T.setTop (mkF m pc L S)) := by
  obtain ⟨vm0, k0, locs, X, eT, N, hx, hby, hml, hZ, hown, hnm, hret, hlk, hn, hS, hk, hB, hI⟩ := H
  subst hp
  exact oG.go (fun t hr => XT.iconstV X.here hx rfl v (hb hby hd) hv hr) k
theorem o_bipush (H : oH p l e R s m args below meth c bc ml y rt Z n0 T h cells slots b I) {i : Int} (v : Int32) (hv : (Int8.ofInt i).toInt32 = v) (hd : decode bc pc = .ok (.bipush i, 2)) (hp : pc + 2 = pc') (k : oG p e below s n0 kc ks J Q (T.setTop (mkF m pc' L (.int v :: S)))) : oG p e below s n0 kc ks J Q (T.setTop (mkF m pc L S)) := by
  obtain ⟨vm0, k0, locs, X, eT, N, hx, hby, hml, hZ, hown, hnm, hret, hlk, hn, hS, hk, hB, hI⟩ := H
  subst hp
  exact oG.go (fun t hr => XT.bipushV X.here hx rfl v (hb hby hd) hv hr) k
theorem o_sipush (H : oH p l e R s m args below meth c bc ml y rt Z n0 T h cells slots b I) {i : Int} (v : Int32) (hv : (Int16.ofInt i).toInt32 = v) (hd : decode bc pc = .ok (.sipush i, 3)) (hp : pc + 3 = pc') (k : oG p e below s n0 kc ks J Q (T.setTop (mkF m pc' L (.int v :: S)))) : oG p e below s n0 kc ks J Q (T.setTop (mkF m pc L S)) := by
  obtain ⟨vm0, k0, locs, X, eT, N, hx, hby, hml, hZ, hown, hnm, hret, hlk, hn, hS, hk, hB, hI⟩ := H
  subst hp
  exact oG.go (fun t hr => XT.sipushV X.here hx rfl v (hb hby hd) hv hr) k
theorem o_lconst (H : oH p l e R s m args below meth c bc ml y rt Z n0 T h cells slots b I) {i : Fin 2} (v : Int64) (hv : Int64.ofNat i = v) (hd : decode bc pc = .ok (.lconst i, 1)) (hp : pc + 1 = pc') (k : oG p e below s n0 kc ks J Q (T.setTop (mkF m pc' L (.long v :: S)))) : oG p e below s n0 kc ks J Q (T.setTop (mkF m pc L S)) := by
  obtain ⟨vm0, k0, locs, X, eT, N, hx, hby, hml, hZ, hown, hnm, hret, hlk, hn, hS, hk, hB, hI⟩ := H
  subst hp
  exact oG.go (fun t hr => XT.lconstV X.here hx rfl v (hb hby hd) hv hr) k
theorem o_aconst_null (H : oH p l e R s m args below meth c bc ml y rt Z n0 T h cells slots b I)   (hd : decode bc pc = .ok (.aconst_null, 1)) (hp : pc + 1 = pc') (k : oG p e below s n0 kc ks J Q (T.setTop (mkF m pc' L (.null :: S)))) : oG p e below s n0 kc ks J Q (T.setTop (mkF m pc L S)) := by
  obtain ⟨vm0, k0, locs, X, eT, N, hx, hby, hml, hZ, hown, hnm, hret, hlk, hn, hS, hk, hB, hI⟩ := H
  subst hp
  exact oG.go (fun t hr => XS.aconstNull X.here hx rfl (hb hby hd) hr) k
theorem o_iadd (H : oH p l e R s m args below meth c bc ml y rt Z n0 T h cells slots b I) {x z : Int32}  (hd : decode bc pc = .ok (.iadd, 1)) (hp : pc + 1 = pc') (k : oG p e below s n0 kc ks J Q (T.setTop (mkF m pc' L (.int (x + z) :: S)))) : oG p e below s n0 kc ks J Q (T.setTop (mkF m pc L (.int z :: .int x :: S))) := by
  obtain ⟨vm0, k0, locs, X, eT, N, hx, hby, hml, hZ, hown, hnm, hret, hlk, hn, hS, hk, hB, hI⟩ := H
  subst hp
  exact oG.go (fun t hr => XS.iadd X.here hx rfl (hb hby hd) rfl hr) k
theorem o_isub (H : oH p l e R s m args below meth c bc ml y rt Z n0 T h cells slots b I) {x z : Int32}  (hd : decode bc pc = .ok (.isub, 1)) (hp : pc + 1 = pc') (k : oG p e below s n0 kc ks J Q (T.setTop (mkF m pc' L (.int (x - z) :: S)))) : oG p e below s n0 kc ks J Q (T.setTop (mkF m pc L (.int z :: .int x :: S))) := by
  obtain ⟨vm0, k0, locs, X, eT, N, hx, hby, hml, hZ, hown, hnm, hret, hlk, hn, hS, hk, hB, hI⟩ := H
  subst hp
  exact oG.go (fun t hr => XS.isub X.here hx rfl (hb hby hd) rfl hr) k
theorem o_imul (H : oH p l e R s m args below meth c bc ml y rt Z n0 T h cells slots b I) {x z : Int32}  (hd : decode bc pc = .ok (.imul, 1)) (hp : pc + 1 = pc') (k : oG p e below s n0 kc ks J Q (T.setTop (mkF m pc' L (.int (x * z) :: S)))) : oG p e below s n0 kc ks J Q (T.setTop (mkF m pc L (.int z :: .int x :: S))) := by
  obtain ⟨vm0, k0, locs, X, eT, N, hx, hby, hml, hZ, hown, hnm, hret, hlk, hn, hS, hk, hB, hI⟩ := H
  subst hp
  exact oG.go (fun t hr => XS.imul X.here hx rfl (hb hby hd) rfl hr) k
theorem o_iand (H : oH p l e R s m args below meth c bc ml y rt Z n0 T h cells slots b I) {x z : Int32}  (hd : decode bc pc = .ok (.iand, 1)) (hp : pc + 1 = pc') (k : oG p e below s n0 kc ks J Q (T.setTop (mkF m pc' L (.int (x &&& z) :: S)))) : oG p e below s n0 kc ks J Q (T.setTop (mkF m pc L (.int z :: .int x :: S))) := by
  obtain ⟨vm0, k0, locs, X, eT, N, hx, hby, hml, hZ, hown, hnm, hret, hlk, hn, hS, hk, hB, hI⟩ := H
  subst hp
  exact oG.go (fun t hr => XS.iand X.here hx rfl (hb hby hd) rfl hr) k
theorem o_ior (H : oH p l e R s m args below meth c bc ml y rt Z n0 T h cells slots b I) {x z : Int32}  (hd : decode bc pc = .ok (.ior, 1)) (hp : pc + 1 = pc') (k : oG p e below s n0 kc ks J Q (T.setTop (mkF m pc' L (.int (x ||| z) :: S)))) : oG p e below s n0 kc ks J Q (T.setTop (mkF m pc L (.int z :: .int x :: S))) := by
  obtain ⟨vm0, k0, locs, X, eT, N, hx, hby, hml, hZ, hown, hnm, hret, hlk, hn, hS, hk, hB, hI⟩ := H
  subst hp
  exact oG.go (fun t hr => XT.ior X.here hx rfl (hb hby hd) rfl hr) k
theorem o_ixor (H : oH p l e R s m args below meth c bc ml y rt Z n0 T h cells slots b I) {x z : Int32}  (hd : decode bc pc = .ok (.ixor, 1)) (hp : pc + 1 = pc') (k : oG p e below s n0 kc ks J Q (T.setTop (mkF m pc' L (.int (x ^^^ z) :: S)))) : oG p e below s n0 kc ks J Q (T.setTop (mkF m pc L (.int z :: .int x :: S))) := by
  obtain ⟨vm0, k0, locs, X, eT, N, hx, hby, hml, hZ, hown, hnm, hret, hlk, hn, hS, hk, hB, hI⟩ := H
  subst hp
  exact oG.go (fun t hr => XT.ixor X.here hx rfl (hb hby hd) rfl hr) k
theorem o_ishl (H : oH p l e R s m args below meth c bc ml y rt Z n0 T h cells slots b I) {x z : Int32}  (hd : decode bc pc = .ok (.ishl, 1)) (hp : pc + 1 = pc') (k : oG p e below s n0 kc ks J Q (T.setTop (mkF m pc' L (.int (x <<< (z &&& 31)) :: S)))) : oG p e below s n0 kc ks J Q (T.setTop (mkF m pc L (.int z :: .int x :: S))) := by
  obtain ⟨vm0, k0, locs, X, eT, N, hx, hby, hml, hZ, hown, hnm, hret, hlk, hn, hS, hk, hB, hI⟩ := H
  subst hp
  exact oG.go (fun t hr => XT.ishl X.here hx rfl (hb hby hd) rfl hr) k
theorem o_ishr (H : oH p l e R s m args below meth c bc ml y rt Z n0 T h cells slots b I) {x z : Int32}  (hd : decode bc pc = .ok (.ishr, 1)) (hp : pc + 1 = pc') (k : oG p e below s n0 kc ks J Q (T.setTop (mkF m pc' L (.int (x >>> (z &&& 31)) :: S)))) : oG p e below s n0 kc ks J Q (T.setTop (mkF m pc L (.int z :: .int x :: S))) := by
  obtain ⟨vm0, k0, locs, X, eT, N, hx, hby, hml, hZ, hown, hnm, hret, hlk, hn, hS, hk, hB, hI⟩ := H
  subst hp
  exact oG.go (fun t hr => XT.ishr X.here hx rfl (hb hby hd) rfl hr) k
theorem o_iushr (H : oH p l e R s m args below meth c bc ml y rt Z n0 T h cells slots b I) {x z : Int32}  (hd : decode bc pc = .ok (.iushr, 1)) (hp : pc + 1 = pc') (k : oG p e below s n0 kc ks J Q (T.setTop (mkF m pc' L (.int (XT.ushr x z) :: S)))) : oG p e below s n0 kc ks J Q (T.setTop (mkF m pc L (.int z :: .int x :: S))) := by
  obtain ⟨vm0, k0, locs, X, eT, N, hx, hby, hml, hZ, hown, hnm, hret, hlk, hn, hS, hk, hB, hI⟩ := H
  subst hp
  exact oG.go (fun t hr => XT.iushr X.here hx rfl (hb hby hd) rfl hr) k
theorem o_ladd (H : oH p l e R s m args below meth c bc ml y rt Z n0 T h cells slots b I) {x z : Int64}  (hd : decode bc pc = .ok (.ladd, 1)) (hp : pc + 1 = pc') (k : oG p e below s n0 kc ks J Q (T.setTop (mkF m pc' L (.long (x + z) :: S)))) : oG p e below s n0 kc ks J Q (T.setTop (mkF m pc L (.long z :: .long x :: S))) := by
  obtain ⟨vm0, k0, locs, X, eT, N, hx, hby, hml, hZ, hown, hnm, hret, hlk, hn, hS, hk, hB, hI⟩ := H
  subst hp
  exact oG.go (fun t hr => XT.ladd X.here hx rfl (hb hby hd) rfl hr) k
theorem o_lsub (H : oH p l e R s m args below meth c bc ml y rt Z n0 T h cells slots b I) {x z : Int64}  (hd : decode bc pc = .ok (.lsub, 1)) (hp : pc + 1 = pc') (k : oG p e below s n0 kc ks J Q (T.setTop (mkF m pc' L (.long (x - z) :: S)))) : oG p e below s n0 kc ks J Q (T.setTop (mkF m pc L (.long z :: .long x :: S))) := by
  obtain ⟨vm0, k0, locs, X, eT, N, hx, hby, hml, hZ, hown, hnm, hret, hlk, hn, hS, hk, hB, hI⟩ := H
  subst hp
  exact oG.go (fun t hr => XT.lsub X.here hx rfl (hb hby hd) rfl hr) k
theorem o_lmul (H : oH p l e R s m args below meth c bc ml y rt Z n0 T h cells slots b I) {x z : Int64}  (hd : decode bc pc = .ok (.lmul, 1)) (hp : pc + 1 = pc') (k : oG p e below s n0 kc ks J Q (T.setTop (mkF m pc' L (.long (x * z) :: S)))) : oG p e below s n0 kc ks J Q (T.setTop (mkF m pc L (.long z :: .long x :: S))) := by
  obtain ⟨vm0, k0, locs, X, eT, N, hx, hby, hml, hZ, hown, hnm, hret, hlk, hn, hS, hk, hB, hI⟩ := H
  subst hp
  exact oG.go (fun t hr => XT.lmul X.here hx rfl (hb hby hd) rfl hr) k
theorem o_land (H : oH p l e R s m args below meth c bc ml y rt Z n0 T h cells slots b I) {x z : Int64}  (hd : decode bc pc = .ok (.land, 1)) (hp : pc + 1 = pc') (k : oG p e below s n0 kc ks J Q (T.setTop (mkF m pc' L (.long (x &&& z) :: S)))) : oG p e below s n0 kc ks J Q (T.setTop (mkF m pc L (.long z :: .long x :: S))) := by
  obtain ⟨vm0, k0, locs, X, eT, N, hx, hby, hml, hZ, hown, hnm, hret, hlk, hn, hS, hk, hB, hI⟩ := H
  subst hp
  exact oG.go (fun t hr => XT.land X.here hx rfl (hb hby hd) rfl hr) k
theorem o_lor (H : oH p l e R s m args below meth c bc ml y rt Z n0 T h cells slots b I) {x z : Int64}  (hd : decode bc pc = .ok (.lor, 1)) (hp : pc + 1 = pc') (k : oG p e below s n0 kc ks J Q (T.setTop (mkF m pc' L (.long (x ||| z) :: S)))) : oG p e below s n0 kc ks J Q (T.setTop (mkF m pc L (.long z :: .long x :: S))) := by
  obtain ⟨vm0, k0, locs, X, eT, N, hx, hby, hml, hZ, hown, hnm, hret, hlk, hn, hS, hk, hB, hI⟩ := H
  subst hp
  exact oG.go (fun t hr => XT.lor X.here hx rfl (hb hby hd) rfl hr) k
theorem o_lxor (H : oH p l e R s m args below meth c bc ml y rt Z n0 T h cells slots b I) {x z : Int64}  (hd : decode bc pc = .ok (.lxor, 1)) (hp : pc + 1 = pc') (k : oG p e below s n0 kc ks J Q (T.setTop (mkF m pc' L (.long (x ^^^ z) :: S)))) : oG p e below s n0 kc ks J Q (T.setTop (mkF m pc L (.long z :: .long x :: S))) := by
  obtain ⟨vm0, k0, locs, X, eT, N, hx, hby, hml, hZ, hown, hnm, hret, hlk, hn, hS, hk, hB, hI⟩ := H
  subst hp
  exact oG.go (fun t hr => XT.lxor X.here hx rfl (hb hby hd) rfl hr) k
theorem o_lcmp (H : oH p l e R s m args below meth c bc ml y rt Z n0 T h cells slots b I) {x z : Int64}  (hd : decode bc pc = .ok (.lcmp, 1)) (hp : pc + 1 = pc') (k : oG p e below s n0 kc ks J Q (T.setTop (mkF m pc' L (.int (XT.cmpL x z) :: S)))) : oG p e below s n0 kc ks J Q (T.setTop (mkF m pc L (.long z :: .long x :: S))) := by
  obtain ⟨vm0, k0, locs, X, eT, N, hx, hby, hml, hZ, hown, hnm, hret, hlk, hn, hS, hk, hB, hI⟩ := H
  subst hp
  exact oG.go (fun t hr => XT.lcmp X.here hx rfl (hb hby hd) rfl hr) k
theorem o_lshl (H : oH p l e R s m args below meth c bc ml y rt Z n0 T h cells slots b I) {x : Int64} {z : Int32}  (hd : decode bc pc = .ok (.lshl, 1)) (hp : pc + 1 = pc') (k : oG p e below s n0 kc ks J Q (T.setTop (mkF m pc' L (.long (x <<< (z.toInt64 &&& 63)) :: S)))) : oG p e below s n0 kc ks J Q (T.setTop (mkF m pc L (.int z :: .long x :: S))) := by
  obtain ⟨vm0, k0, locs, X, eT, N, hx, hby, hml, hZ, hown, hnm, hret, hlk, hn, hS, hk, hB, hI⟩ := H
  subst hp
  exact oG.go (fun t hr => XT.lshl X.here hx rfl (hb hby hd) rfl hr) k
theorem o_lshr (H : oH p l e R s m args below meth c bc ml y rt Z n0 T h cells slots b I) {x : Int64} {z : Int32}  (hd : decode bc pc = .ok (.lshr, 1)) (hp : pc + 1 = pc') (k : oG p e below s n0 kc ks J Q (T.setTop (mkF m pc' L (.long (x >>> (z.toInt64 &&& 63)) :: S)))) : oG p e below s n0 kc ks J Q (T.setTop (mkF m pc L (.int z :: .long x :: S))) := by
  obtain ⟨vm0, k0, locs, X, eT, N, hx, hby, hml, hZ, hown, hnm, hret, hlk, hn, hS, hk, hB, hI⟩ := H
  subst hp
  exact oG.go (fun t hr => XT.lshr X.here hx rfl (hb hby hd) rfl hr) k
theorem o_lushr (H : oH p l e R s m args below meth c bc ml y rt Z n0 T h cells slots b I) {x : Int64} {z : Int32}  (hd : decode bc pc = .ok (.lushr, 1)) (hp : pc + 1 = pc') (k : oG p e below s n0 kc ks J Q (T.setTop (mkF m pc' L (.long (XT.ushrL x z) :: S)))) : oG p e below s n0 kc ks J Q (T.setTop (mkF m pc L (.int z :: .long x :: S))) := by
  obtain ⟨vm0, k0, locs, X, eT, N, hx, hby, hml, hZ, hown, hnm, hret, hlk, hn, hS, hk, hB, hI⟩ := H
  subst hp
  exact oG.go (fun t hr => XT.lushr X.here hx rfl (hb hby hd) rfl hr) k
theorem o_idiv (H : oH p l e R s m args below meth c bc ml y rt Z n0 T h cells slots b I) {x z : Int32} (hz : z ≠ 0) (hd : decode bc pc = .ok (.idiv, 1)) (hp : pc + 1 = pc') (k : oG p e below s n0 kc ks J Q (T.setTop (mkF m pc' L (.int (x / z) :: S)))) : oG p e below s n0 kc ks J Q (T.setTop (mkF m pc L (.int z :: .int x :: S))) := by
  obtain ⟨vm0, k0, locs, X, eT, N, hx, hby, hml, hZ, hown, hnm, hret, hlk, hn, hS, hk, hB, hI⟩ := H
  subst hp
  exact oG.go (fun t hr => XS.idiv X.here hx rfl (hb hby hd) rfl hz hr) k
theorem o_irem (H : oH p l e R s m args below meth c bc ml y rt Z n0 T h cells slots b I) {x z : Int32} (hz : z ≠ 0) (hd : decode bc pc = .ok (.irem, 1)) (hp : pc + 1 = pc') (k : oG p e below s n0 kc ks J Q (T.setTop (mkF m pc' L (.int (x % z) :: S)))) : oG p e below s n0 kc ks J Q (T.setTop (mkF m pc L (.int z :: .int x :: S))) := by
  obtain ⟨vm0, k0, locs, X, eT, N, hx, hby, hml, hZ, hown, hnm, hret, hlk, hn, hS, hk, hB, hI⟩ := H
  subst hp
  exact oG.go (fun t hr => iremM X hx rfl (hb hby hd) rfl hz hr) k
theorem o_ineg (H : oH p l e R s m args below meth c bc ml y rt Z n0 T h cells slots b I) {x : Int32}  (hd : decode bc pc = .ok (.ineg, 1)) (hp : pc + 1 = pc') (k : oG p e below s n0 kc ks J Q (T.setTop (mkF m pc' L (.int (-x) :: S)))) : oG p e below s n0 kc ks J Q (T.setTop (mkF m pc L (.int x :: S))) := by
  obtain ⟨vm0, k0, locs, X, eT, N, hx, hby, hml, hZ, hown, hnm, hret, hlk, hn, hS, hk, hB, hI⟩ := H
  subst hp
  exact oG.go (fun t hr => XS.ineg X.here hx rfl (hb hby hd) rfl hr) k
theorem o_lneg (H : oH p l e R s m args below meth c bc ml y rt Z n0 T h cells slots b I) {x : Int64}  (hd : decode bc pc = .ok (.lneg, 1)) (hp : pc + 1 = pc') (k : oG p e below s n0 kc ks J Q (T.setTop (mkF m pc' L (.long (-x) :: S)))) : oG p e below s n0 kc ks J Q (T.setTop (mkF m pc L (.long x :: S))) := by
  obtain ⟨vm0, k0, locs, X, eT, N, hx, hby, hml, hZ, hown, hnm, hret, hlk, hn, hS, hk, hB, hI⟩ := H
  subst hp
  exact oG.go (fun t hr => XT.lneg X.here hx rfl (hb hby hd) rfl hr) k
theorem o_i2l (H : oH p l e R s m args below meth c bc ml y rt Z n0 T h cells slots b I) {x : Int32}  (hd : decode bc pc = .ok (.i2l, 1)) (hp : pc + 1 = pc') (k : oG p e below s n0 kc ks J Q (T.setTop (mkF m pc' L (.long x.toInt64 :: S)))) : oG p e below s n0 kc ks J Q (T.setTop (mkF m pc L (.int x :: S))) := by
  obtain ⟨vm0, k0, locs, X, eT, N, hx, hby, hml, hZ, hown, hnm, hret, hlk, hn, hS, hk, hB, hI⟩ := H
  subst hp
  exact oG.go (fun t hr => XT.i2l X.here hx rfl (hb hby hd) rfl hr) k
theorem o_l2i (H : oH p l e R s m args below meth c bc ml y rt Z n0 T h cells slots b I) {x : Int64}  (hd : decode bc pc = .ok (.l2i, 1)) (hp : pc + 1 = pc') (k : oG p e below s n0 kc ks J Q (T.setTop (mkF m pc' L (.int x.toInt32 :: S)))) : oG p e below s n0 kc ks J Q (T.setTop (mkF m pc L (.long x :: S))) := by
  obtain ⟨vm0, k0, locs, X, eT, N, hx, hby, hml, hZ, hown, hnm, hret, hlk, hn, hS, hk, hB, hI⟩ := H
  subst hp
  exact oG.go (fun t hr => XT.l2i X.here hx rfl (hb hby hd) rfl hr) k
theorem o_i2b (H : oH p l e R s m args below meth c bc ml y rt Z n0 T h cells slots b I) {x : Int32}  (hd : decode bc pc = .ok (.i2b, 1)) (hp : pc + 1 = pc') (k : oG p e below s n0 kc ks J Q (T.setTop (mkF m pc' L (.int x.toInt8.toInt32 :: S)))) : oG p e below s n0 kc ks J Q (T.setTop (mkF m pc L (.int x :: S))) := by
  obtain ⟨vm0, k0, locs, X, eT, N, hx, hby, hml, hZ, hown, hnm, hret, hlk, hn, hS, hk, hB, hI⟩ := H
  subst hp
  exact oG.go (fun t hr => XT.i2b X.here hx rfl (hb hby hd) rfl hr) k
theorem o_i2c (H : oH p l e R s m args below meth c bc ml y rt Z n0 T h cells slots b I) {x : Int32}  (hd : decode bc pc = .ok (.i2c, 1)) (hp : pc + 1 = pc') (k : oG p e below s n0 kc ks J Q (T.setTop (mkF m pc' L (.int x.toUInt32.toUInt16.toUInt32.toInt32 :: S)))) : oG p e below s n0 kc ks J Q (T.setTop (mkF m pc L (.int x :: S))) := by
  obtain ⟨vm0, k0, locs, X, eT, N, hx, hby, hml, hZ, hown, hnm, hret, hlk, hn, hS, hk, hB, hI⟩ := H
  subst hp
  exact oG.go (fun t hr => XT.i2c X.here hx rfl (hb hby hd) rfl hr) k
theorem o_i2s (H : oH p l e R s m args below meth c bc ml y rt Z n0 T h cells slots b I) {x : Int32}  (hd : decode bc pc = .ok (.i2s, 1)) (hp : pc + 1 = pc') (k : oG p e below s n0 kc ks J Q (T.setTop (mkF m pc' L (.int x.toInt16.toInt32 :: S)))) : oG p e below s n0 kc ks J Q (T.setTop (mkF m pc L (.int x :: S))) := by
  obtain ⟨vm0, k0, locs, X, eT, N, hx, hby, hml, hZ, hown, hnm, hret, hlk, hn, hS, hk, hB, hI⟩ := H
  subst hp
  exact oG.go (fun t hr => XT.i2s X.here hx rfl (hb hby hd) rfl hr) k
theorem o_iinc (H : oH p l e R s m args below meth c bc ml y rt Z n0 T h cells slots b I) {j : Nat} {cst : Int} {x : Int32} (v u : Int32) (hv : Int32.ofInt cst = v) (hu : x + v = u) (hl : L[j]? = some (.val (.int x))) (hl' : storeLocals L j (.int u) = some L') (hd : decode bc pc = .ok (.iinc j cst, 3)) (hp : pc + 3 = pc') (k : oG p e below s n0 kc ks J Q (T.setTop (mkF m pc' L' S))) : oG p e below s n0 kc ks J Q (T.setTop (mkF m pc L S)) := by
  obtain ⟨vm0, k0, locs, X, eT, N, hx, hby, hml, hZ, hown, hnm, hret, hlk, hn, hS, hk, hB, hI⟩ := H
  subst hp
  exact oG.go (fun t hr => XT.iincV X.here hx rfl v (hb hby hd) hv hl (hu ▸ hl') hr) k
theorem o_fold {x : Int32} (v : Int32) (hv : x = v) (k : oG p e below s n0 kc ks J Q (T.setTop (mkF m pc L (.int v :: S)))) : oG p e below s n0 kc ks J Q (T.setTop (mkF m pc L (.int x :: S))) := hv ▸ k
theorem o_foldJ {x : Int64} (v : Int64) (hv : x = v) (k : oG p e below s n0 kc ks J Q (T.setTop (mkF m pc L (.long v :: S)))) : oG p e below s n0 kc ks J Q (T.setTop (mkF m pc L (.long x :: S))) := hv ▸ k
theorem o_dup (H : oH p l e R s m args below meth c bc ml y rt Z n0 T h cells slots b I) {v : Value} (hc : v.category = 1) (hd : decode bc pc = .ok (.dup, 1)) (hp : pc + 1 = pc') (k : oG p e below s n0 kc ks J Q (T.setTop (mkF m pc' L (v :: v :: S)))) : oG p e below s n0 kc ks J Q (T.setTop (mkF m pc L (v :: S))) := by
  obtain ⟨vm0, k0, locs, X, eT, N, hx, hby, hml, hZ, hown, hnm, hret, hlk, hn, hS, hk, hB, hI⟩ := H
  subst hp
  exact oG.go (fun t hr => XS.dup X.here hx rfl (hb hby hd) rfl hc hr) k
theorem o_dup_x1 (H : oH p l e R s m args below meth c bc ml y rt Z n0 T h cells slots b I) {v w : Value} (hc : v.category = 1) (hc' : w.category = 1) (hd : decode bc pc = .ok (.dup_x1, 1)) (hp : pc + 1 = pc') (k : oG p e below s n0 kc ks J Q (T.setTop (mkF m pc' L (v :: w :: v :: S)))) : oG p e below s n0 kc ks J Q (T.setTop (mkF m pc L (v :: w :: S))) := by
  obtain ⟨vm0, k0, locs, X, eT, N, hx, hby, hml, hZ, hown, hnm, hret, hlk, hn, hS, hk, hB, hI⟩ := H
  subst hp
  exact oG.go (fun t hr => XT.dupX1 X.here hx rfl (hb hby hd) rfl hc hc' hr) k
theorem o_dup2 (H : oH p l e R s m args below meth c bc ml y rt Z n0 T h cells slots b I) {v w : Value} (hc : v.category = 1) (hc' : w.category = 1) (hd : decode bc pc = .ok (.dup2, 1)) (hp : pc + 1 = pc') (k : oG p e below s n0 kc ks J Q (T.setTop (mkF m pc' L (v :: w :: v :: w :: S)))) : oG p e below s n0 kc ks J Q (T.setTop (mkF m pc L (v :: w :: S))) := by
  obtain ⟨vm0, k0, locs, X, eT, N, hx, hby, hml, hZ, hown, hnm, hret, hlk, hn, hS, hk, hB, hI⟩ := H
  subst hp
  exact oG.go (fun t hr => XT.dup2 X.here hx rfl (hb hby hd) rfl hc hc' hr) k
theorem o_dup2L (H : oH p l e R s m args below meth c bc ml y rt Z n0 T h cells slots b I) {v : Int64}  (hd : decode bc pc = .ok (.dup2, 1)) (hp : pc + 1 = pc') (k : oG p e below s n0 kc ks J Q (T.setTop (mkF m pc' L (.long v :: .long v :: S)))) : oG p e below s n0 kc ks J Q (T.setTop (mkF m pc L (.long v :: S))) := by
  obtain ⟨vm0, k0, locs, X, eT, N, hx, hby, hml, hZ, hown, hnm, hret, hlk, hn, hS, hk, hB, hI⟩ := H
  subst hp
  exact oG.go (fun t hr => XT.dup2L X.here hx rfl (hb hby hd) rfl hr) k
theorem o_pop (H : oH p l e R s m args below meth c bc ml y rt Z n0 T h cells slots b I) {v : Value} (hc : v.category = 1) (hd : decode bc pc = .ok (.pop, 1)) (hp : pc + 1 = pc') (k : oG p e below s n0 kc ks J Q (T.setTop (mkF m pc' L S))) : oG p e below s n0 kc ks J Q (T.setTop (mkF m pc L (v :: S))) := by
  obtain ⟨vm0, k0, locs, X, eT, N, hx, hby, hml, hZ, hown, hnm, hret, hlk, hn, hS, hk, hB, hI⟩ := H
  subst hp
  exact oG.go (fun t hr => XT.pop X.here hx rfl (hb hby hd) rfl hc hr) k
theorem o_one {i : Nat} {v : Value} {sl : Slot} (hs : L[i]? = some sl) (h1 : sl = .unset ∨ ∃ z, sl = .val (.int z)) (hv : v.category = 1) : storeLocals L i v = some (L.setIfInBounds i (.val v)) :=
  XS.store1 hs (h1.imp id fun ⟨z, q⟩ => ⟨.int z, q, rfl⟩) hv
theorem o_len {vs : List Int32} : (vs.map Value.int).length.toInt32 = Int32.ofNat vs.length := by rw [List.length_map]
theorem o_get {vs : List Int32} {i : Nat} (h : i < vs.length) : (vs.map Value.int)[i]? = some (.int (vs[i]'h)) := by simp [h]
theorem o_ofNat {n : Nat} (h : n < 2147483648) : (Int32.ofNat n).toInt = n := Int32.toInt_ofNat_of_lt (by omega)
theorem o_lenJ {vs : List Int64} : (vs.map Value.long).length.toInt32 = Int32.ofNat vs.length := by rw [List.length_map]
theorem o_getJ {vs : List Int64} {i : Nat} (h : i < vs.length) : (vs.map Value.long)[i]? = some (.long (vs[i]'h)) := by simp [h]
theorem o_succ {n : Nat} : Int32.ofNat n + 1 = Int32.ofNat (n + 1) := (Int32.ofNat_add n 1).symm
theorem o_bt {A : Prop} [Decidable A] {b : Int32} (e : b = if A then (1 : Int32) else 0) (q : ¬ b = 0) : A := by
  by_cases a : A
  · exact a
  · rw [if_neg a] at e; exact absurd e q
theorem o_bf {A : Prop} [Decidable A] {b : Int32} (e : b = if A then (1 : Int32) else 0) (q : b = 0) : ¬ A := by
  intro a
  exact absurd ((e.trans (if_pos a)).symm.trans q) (by decide)
theorem o_goto (H : oH p l e R s m args below meth c bc ml y rt Z n0 T h cells slots b I) {o : Int} (hd : decode bc pc = .ok (.goto o, 3)) (ho : 0 ≤ (pc : Int) + o) (hp : ((pc : Int) + o).toNat = pt) (k : oG p e below s n0 kc ks J Q (T.setTop (mkF m pt L S))) : oG p e below s n0 kc ks J Q (T.setTop (mkF m pc L S)) := by
  obtain ⟨vm0, k0, locs, X, eT, N, hx, hby, hml, hZ, hown, hnm, hret, hlk, hn, hS, hk, hB, hI⟩ := H
  exact oG.go (fun t hr => XS.goto X.here hx rfl rfl (hb hby hd) ho hp hr) k
theorem o_icmp_eq (H : oH p l e R s m args below meth c bc ml y rt Z n0 T h cells slots b I) {o : Int} {x z : Int32} (hd : decode bc pc = .ok (.if_icmp .eq o, 3)) (ho : 0 ≤ (pc : Int) + o) (hp : ((pc : Int) + o).toNat = pt) (hp' : pc + 3 = pc') (kt : x = z → oG p e below s n0 kc ks J Q (T.setTop (mkF m pt L S))) (kf : ¬ x = z → oG p e below s n0 kc ks J Q (T.setTop (mkF m pc' L S))) : oG p e below s n0 kc ks J Q (T.setTop (mkF m pc L (.int z :: .int x :: S))) := by
  by_cases q : x = z
  · have k := kt q
    obtain ⟨vm0, k0, locs, X, eT, N, hx, hby, hml, hZ, hown, hnm, hret, hlk, hn, hS, hk, hB, hI⟩ := H
    exact oG.go (fun t hr => XS.icmpYes X.here hx rfl rfl (hb hby hd) rfl (XT.ii_eq_t q) ho hp hr) k
  · have k := kf q
    obtain ⟨vm0, k0, locs, X, eT, N, hx, hby, hml, hZ, hown, hnm, hret, hlk, hn, hS, hk, hB, hI⟩ := H
    subst hp'
    exact oG.go (fun t hr => XS.icmpNo X.here hx rfl (hb hby hd) rfl (XT.ii_eq_f q) hr) k
theorem o_if_eq (H : oH p l e R s m args below meth c bc ml y rt Z n0 T h cells slots b I) {o : Int} {x : Int32} (hd : decode bc pc = .ok (.ifCond .eq o, 3)) (ho : 0 ≤ (pc : Int) + o) (hp : ((pc : Int) + o).toNat = pt) (hp' : pc + 3 = pc') (kt : x = 0 → oG p e below s n0 kc ks J Q (T.setTop (mkF m pt L S))) (kf : ¬ x = 0 → oG p e below s n0 kc ks J Q (T.setTop (mkF m pc' L S))) : oG p e below s n0 kc ks J Q (T.setTop (mkF m pc L (.int x :: S))) := by
  by_cases q : x = 0
  · have k := kt q
    obtain ⟨vm0, k0, locs, X, eT, N, hx, hby, hml, hZ, hown, hnm, hret, hlk, hn, hS, hk, hB, hI⟩ := H
    exact oG.go (fun t hr => XS.ifYes X.here hx rfl rfl (hb hby hd) rfl (XT.i0_eq_t q) ho hp hr) k
  · have k := kf q
    obtain ⟨vm0, k0, locs, X, eT, N, hx, hby, hml, hZ, hown, hnm, hret, hlk, hn, hS, hk, hB, hI⟩ := H
    subst hp'
    exact oG.go (fun t hr => XS.ifNo X.here hx rfl (hb hby hd) rfl (XT.i0_eq_f q) hr) k
theorem o_ifl_eq (H : oH p l e R s m args below meth c bc ml y rt Z n0 T h cells slots b I) {o : Int} {x z : Int64} (hd : decode bc pc = .ok (.ifCond .eq o, 3)) (ho : 0 ≤ (pc : Int) + o) (hp : ((pc : Int) + o).toNat = pt) (hp' : pc + 3 = pc') (kt : x = z → oG p e below s n0 kc ks J Q (T.setTop (mkF m pt L S))) (kf : ¬ x = z → oG p e below s n0 kc ks J Q (T.setTop (mkF m pc' L S))) : oG p e below s n0 kc ks J Q (T.setTop (mkF m pc L (.int (XT.cmpL x z) :: S))) := by
  by_cases q : x = z
  · have k := kt q
    obtain ⟨vm0, k0, locs, X, eT, N, hx, hby, hml, hZ, hown, hnm, hret, hlk, hn, hS, hk, hB, hI⟩ := H
    exact oG.go (fun t hr => XS.ifYes X.here hx rfl rfl (hb hby hd) rfl (XT.ll_eq_t q) ho hp hr) k
  · have k := kf q
    obtain ⟨vm0, k0, locs, X, eT, N, hx, hby, hml, hZ, hown, hnm, hret, hlk, hn, hS, hk, hB, hI⟩ := H
    subst hp'
    exact oG.go (fun t hr => XS.ifNo X.here hx rfl (hb hby hd) rfl (XT.ll_eq_f q) hr) k
theorem o_icmp_ne (H : oH p l e R s m args below meth c bc ml y rt Z n0 T h cells slots b I) {o : Int} {x z : Int32} (hd : decode bc pc = .ok (.if_icmp .ne o, 3)) (ho : 0 ≤ (pc : Int) + o) (hp : ((pc : Int) + o).toNat = pt) (hp' : pc + 3 = pc') (kt : ¬ x = z → oG p e below s n0 kc ks J Q (T.setTop (mkF m pt L S))) (kf : x = z → oG p e below s n0 kc ks J Q (T.setTop (mkF m pc' L S))) : oG p e below s n0 kc ks J Q (T.setTop (mkF m pc L (.int z :: .int x :: S))) := by
  by_cases q : ¬ x = z
  · have k := kt q
    obtain ⟨vm0, k0, locs, X, eT, N, hx, hby, hml, hZ, hown, hnm, hret, hlk, hn, hS, hk, hB, hI⟩ := H
    exact oG.go (fun t hr => XS.icmpYes X.here hx rfl rfl (hb hby hd) rfl (XT.ii_ne_t q) ho hp hr) k
  · have k := kf (Classical.not_not.mp q)
    obtain ⟨vm0, k0, locs, X, eT, N, hx, hby, hml, hZ, hown, hnm, hret, hlk, hn, hS, hk, hB, hI⟩ := H
    subst hp'
    exact oG.go (fun t hr => XS.icmpNo X.here hx rfl (hb hby hd) rfl (XT.ii_ne_f (Classical.not_not.mp q)) hr) k
theorem o_if_ne (H : oH p l e R s m args below meth c bc ml y rt Z n0 T h cells slots b I) {o : Int} {x : Int32} (hd : decode bc pc = .ok (.ifCond .ne o, 3)) (ho : 0 ≤ (pc : Int) + o) (hp : ((pc : Int) + o).toNat = pt) (hp' : pc + 3 = pc') (kt : ¬ x = 0 → oG p e below s n0 kc ks J Q (T.setTop (mkF m pt L S))) (kf : x = 0 → oG p e below s n0 kc ks J Q (T.setTop (mkF m pc' L S))) : oG p e below s n0 kc ks J Q (T.setTop (mkF m pc L (.int x :: S))) := by
  by_cases q : ¬ x = 0
  · have k := kt q
    obtain ⟨vm0, k0, locs, X, eT, N, hx, hby, hml, hZ, hown, hnm, hret, hlk, hn, hS, hk, hB, hI⟩ := H
    exact oG.go (fun t hr => XS.ifYes X.here hx rfl rfl (hb hby hd) rfl (XT.i0_ne_t q) ho hp hr) k
  · have k := kf (Classical.not_not.mp q)
    obtain ⟨vm0, k0, locs, X, eT, N, hx, hby, hml, hZ, hown, hnm, hret, hlk, hn, hS, hk, hB, hI⟩ := H
    subst hp'
    exact oG.go (fun t hr => XS.ifNo X.here hx rfl (hb hby hd) rfl (XT.i0_ne_f (Classical.not_not.mp q)) hr) k
theorem o_ifl_ne (H : oH p l e R s m args below meth c bc ml y rt Z n0 T h cells slots b I) {o : Int} {x z : Int64} (hd : decode bc pc = .ok (.ifCond .ne o, 3)) (ho : 0 ≤ (pc : Int) + o) (hp : ((pc : Int) + o).toNat = pt) (hp' : pc + 3 = pc') (kt : ¬ x = z → oG p e below s n0 kc ks J Q (T.setTop (mkF m pt L S))) (kf : x = z → oG p e below s n0 kc ks J Q (T.setTop (mkF m pc' L S))) : oG p e below s n0 kc ks J Q (T.setTop (mkF m pc L (.int (XT.cmpL x z) :: S))) := by
  by_cases q : ¬ x = z
  · have k := kt q
    obtain ⟨vm0, k0, locs, X, eT, N, hx, hby, hml, hZ, hown, hnm, hret, hlk, hn, hS, hk, hB, hI⟩ := H
    exact oG.go (fun t hr => XS.ifYes X.here hx rfl rfl (hb hby hd) rfl (XT.ll_ne_t q) ho hp hr) k
  · have k := kf (Classical.not_not.mp q)
    obtain ⟨vm0, k0, locs, X, eT, N, hx, hby, hml, hZ, hown, hnm, hret, hlk, hn, hS, hk, hB, hI⟩ := H
    subst hp'
    exact oG.go (fun t hr => XS.ifNo X.here hx rfl (hb hby hd) rfl (XT.ll_ne_f (Classical.not_not.mp q)) hr) k
theorem o_icmp_lt (H : oH p l e R s m args below meth c bc ml y rt Z n0 T h cells slots b I) {o : Int} {x z : Int32} (hd : decode bc pc = .ok (.if_icmp .lt o, 3)) (ho : 0 ≤ (pc : Int) + o) (hp : ((pc : Int) + o).toNat = pt) (hp' : pc + 3 = pc') (kt : x < z → oG p e below s n0 kc ks J Q (T.setTop (mkF m pt L S))) (kf : ¬ x < z → oG p e below s n0 kc ks J Q (T.setTop (mkF m pc' L S))) : oG p e below s n0 kc ks J Q (T.setTop (mkF m pc L (.int z :: .int x :: S))) := by
  by_cases q : x < z
  · have k := kt q
    obtain ⟨vm0, k0, locs, X, eT, N, hx, hby, hml, hZ, hown, hnm, hret, hlk, hn, hS, hk, hB, hI⟩ := H
    exact oG.go (fun t hr => XS.icmpYes X.here hx rfl rfl (hb hby hd) rfl (XT.ii_lt_t q) ho hp hr) k
  · have k := kf q
    obtain ⟨vm0, k0, locs, X, eT, N, hx, hby, hml, hZ, hown, hnm, hret, hlk, hn, hS, hk, hB, hI⟩ := H
    subst hp'
    exact oG.go (fun t hr => XS.icmpNo X.here hx rfl (hb hby hd) rfl (XT.ii_lt_f q) hr) k
theorem o_if_lt (H : oH p l e R s m args below meth c bc ml y rt Z n0 T h cells slots b I) {o : Int} {x : Int32} (hd : decode bc pc = .ok (.ifCond .lt o, 3)) (ho : 0 ≤ (pc : Int) + o) (hp : ((pc : Int) + o).toNat = pt) (hp' : pc + 3 = pc') (kt : x < 0 → oG p e below s n0 kc ks J Q (T.setTop (mkF m pt L S))) (kf : ¬ x < 0 → oG p e below s n0 kc ks J Q (T.setTop (mkF m pc' L S))) : oG p e below s n0 kc ks J Q (T.setTop (mkF m pc L (.int x :: S))) := by
  by_cases q : x < 0
  · have k := kt q
    obtain ⟨vm0, k0, locs, X, eT, N, hx, hby, hml, hZ, hown, hnm, hret, hlk, hn, hS, hk, hB, hI⟩ := H
    exact oG.go (fun t hr => XS.ifYes X.here hx rfl rfl (hb hby hd) rfl (XT.i0_lt_t q) ho hp hr) k
  · have k := kf q
    obtain ⟨vm0, k0, locs, X, eT, N, hx, hby, hml, hZ, hown, hnm, hret, hlk, hn, hS, hk, hB, hI⟩ := H
    subst hp'
    exact oG.go (fun t hr => XS.ifNo X.here hx rfl (hb hby hd) rfl (XT.i0_lt_f q) hr) k
theorem o_ifl_lt (H : oH p l e R s m args below meth c bc ml y rt Z n0 T h cells slots b I) {o : Int} {x z : Int64} (hd : decode bc pc = .ok (.ifCond .lt o, 3)) (ho : 0 ≤ (pc : Int) + o) (hp : ((pc : Int) + o).toNat = pt) (hp' : pc + 3 = pc') (kt : x < z → oG p e below s n0 kc ks J Q (T.setTop (mkF m pt L S))) (kf : ¬ x < z → oG p e below s n0 kc ks J Q (T.setTop (mkF m pc' L S))) : oG p e below s n0 kc ks J Q (T.setTop (mkF m pc L (.int (XT.cmpL x z) :: S))) := by
  by_cases q : x < z
  · have k := kt q
    obtain ⟨vm0, k0, locs, X, eT, N, hx, hby, hml, hZ, hown, hnm, hret, hlk, hn, hS, hk, hB, hI⟩ := H
    exact oG.go (fun t hr => XS.ifYes X.here hx rfl rfl (hb hby hd) rfl (XT.ll_lt_t q) ho hp hr) k
  · have k := kf q
    obtain ⟨vm0, k0, locs, X, eT, N, hx, hby, hml, hZ, hown, hnm, hret, hlk, hn, hS, hk, hB, hI⟩ := H
    subst hp'
    exact oG.go (fun t hr => XS.ifNo X.here hx rfl (hb hby hd) rfl (XT.ll_lt_f q) hr) k
theorem o_icmp_ge (H : oH p l e R s m args below meth c bc ml y rt Z n0 T h cells slots b I) {o : Int} {x z : Int32} (hd : decode bc pc = .ok (.if_icmp .ge o, 3)) (ho : 0 ≤ (pc : Int) + o) (hp : ((pc : Int) + o).toNat = pt) (hp' : pc + 3 = pc') (kt : ¬ x < z → oG p e below s n0 kc ks J Q (T.setTop (mkF m pt L S))) (kf : x < z → oG p e below s n0 kc ks J Q (T.setTop (mkF m pc' L S))) : oG p e below s n0 kc ks J Q (T.setTop (mkF m pc L (.int z :: .int x :: S))) := by
  by_cases q : ¬ x < z
  · have k := kt q
    obtain ⟨vm0, k0, locs, X, eT, N, hx, hby, hml, hZ, hown, hnm, hret, hlk, hn, hS, hk, hB, hI⟩ := H
    exact oG.go (fun t hr => XS.icmpYes X.here hx rfl rfl (hb hby hd) rfl (XT.ii_ge_t q) ho hp hr) k
  · have k := kf (Classical.not_not.mp q)
    obtain ⟨vm0, k0, locs, X, eT, N, hx, hby, hml, hZ, hown, hnm, hret, hlk, hn, hS, hk, hB, hI⟩ := H
    subst hp'
    exact oG.go (fun t hr => XS.icmpNo X.here hx rfl (hb hby hd) rfl (XT.ii_ge_f (Classical.not_not.mp q)) hr) k
theorem o_if_ge (H : oH p l e R s m args below meth c bc ml y rt Z n0 T h cells slots b I) {o : Int} {x : Int32} (hd : decode bc pc = .ok (.ifCond .ge o, 3)) (ho : 0 ≤ (pc : Int) + o) (hp : ((pc : Int) + o).toNat = pt) (hp' : pc + 3 = pc') (kt : ¬ x < 0 → oG p e below s n0 kc ks J Q (T.setTop (mkF m pt L S))) (kf : x < 0 → oG p e below s n0 kc ks J Q (T.setTop (mkF m pc' L S))) : oG p e below s n0 kc ks J Q (T.setTop (mkF m pc L (.int x :: S))) := by
  by_cases q : ¬ x < 0
  · have k := kt q
    obtain ⟨vm0, k0, locs, X, eT, N, hx, hby, hml, hZ, hown, hnm, hret, hlk, hn, hS, hk, hB, hI⟩ := H
    exact oG.go (fun t hr => XS.ifYes X.here hx rfl rfl (hb hby hd) rfl (XT.i0_ge_t q) ho hp hr) k
  · have k := kf (Classical.not_not.mp q)
    obtain ⟨vm0, k0, locs, X, eT, N, hx, hby, hml, hZ, hown, hnm, hret, hlk, hn, hS, hk, hB, hI⟩ := H
    subst hp'
    exact oG.go (fun t hr => XS.ifNo X.here hx rfl (hb hby hd) rfl (XT.i0_ge_f (Classical.not_not.mp q)) hr) k
theorem o_ifl_ge (H : oH p l e R s m args below meth c bc ml y rt Z n0 T h cells slots b I) {o : Int} {x z : Int64} (hd : decode bc pc = .ok (.ifCond .ge o, 3)) (ho : 0 ≤ (pc : Int) + o) (hp : ((pc : Int) + o).toNat = pt) (hp' : pc + 3 = pc') (kt : ¬ x < z → oG p e below s n0 kc ks J Q (T.setTop (mkF m pt L S))) (kf : x < z → oG p e below s n0 kc ks J Q (T.setTop (mkF m pc' L S))) : oG p e below s n0 kc ks J Q (T.setTop (mkF m pc L (.int (XT.cmpL x z) :: S))) := by
  by_cases q : ¬ x < z
  · have k := kt q
    obtain ⟨vm0, k0, locs, X, eT, N, hx, hby, hml, hZ, hown, hnm, hret, hlk, hn, hS, hk, hB, hI⟩ := H
    exact oG.go (fun t hr => XS.ifYes X.here hx rfl rfl (hb hby hd) rfl (XT.ll_ge_t q) ho hp hr) k
  · have k := kf (Classical.not_not.mp q)
    obtain ⟨vm0, k0, locs, X, eT, N, hx, hby, hml, hZ, hown, hnm, hret, hlk, hn, hS, hk, hB, hI⟩ := H
    subst hp'
    exact oG.go (fun t hr => XS.ifNo X.here hx rfl (hb hby hd) rfl (XT.ll_ge_f (Classical.not_not.mp q)) hr) k
theorem o_icmp_gt (H : oH p l e R s m args below meth c bc ml y rt Z n0 T h cells slots b I) {o : Int} {x z : Int32} (hd : decode bc pc = .ok (.if_icmp .gt o, 3)) (ho : 0 ≤ (pc : Int) + o) (hp : ((pc : Int) + o).toNat = pt) (hp' : pc + 3 = pc') (kt : z < x → oG p e below s n0 kc ks J Q (T.setTop (mkF m pt L S))) (kf : ¬ z < x → oG p e below s n0 kc ks J Q (T.setTop (mkF m pc' L S))) : oG p e below s n0 kc ks J Q (T.setTop (mkF m pc L (.int z :: .int x :: S))) := by
  by_cases q : z < x
  · have k := kt q
    obtain ⟨vm0, k0, locs, X, eT, N, hx, hby, hml, hZ, hown, hnm, hret, hlk, hn, hS, hk, hB, hI⟩ := H
    exact oG.go (fun t hr => XS.icmpYes X.here hx rfl rfl (hb hby hd) rfl (XT.ii_gt_t q) ho hp hr) k
  · have k := kf q
    obtain ⟨vm0, k0, locs, X, eT, N, hx, hby, hml, hZ, hown, hnm, hret, hlk, hn, hS, hk, hB, hI⟩ := H
    subst hp'
    exact oG.go (fun t hr => XS.icmpNo X.here hx rfl (hb hby hd) rfl (XT.ii_gt_f q) hr) k
theorem o_if_gt (H : oH p l e R s m args below meth c bc ml y rt Z n0 T h cells slots b I) {o : Int} {x : Int32} (hd : decode bc pc = .ok (.ifCond .gt o, 3)) (ho : 0 ≤ (pc : Int) + o) (hp : ((pc : Int) + o).toNat = pt) (hp' : pc + 3 = pc') (kt : 0 < x → oG p e below s n0 kc ks J Q (T.setTop (mkF m pt L S))) (kf : ¬ 0 < x → oG p e below s n0 kc ks J Q (T.setTop (mkF m pc' L S))) : oG p e below s n0 kc ks J Q (T.setTop (mkF m pc L (.int x :: S))) := by
  by_cases q : 0 < x
  · have k := kt q
    obtain ⟨vm0, k0, locs, X, eT, N, hx, hby, hml, hZ, hown, hnm, hret, hlk, hn, hS, hk, hB, hI⟩ := H
    exact oG.go (fun t hr => XS.ifYes X.here hx rfl rfl (hb hby hd) rfl (XT.i0_gt_t q) ho hp hr) k
  · have k := kf q
    obtain ⟨vm0, k0, locs, X, eT, N, hx, hby, hml, hZ, hown, hnm, hret, hlk, hn, hS, hk, hB, hI⟩ := H
    subst hp'
    exact oG.go (fun t hr => XS.ifNo X.here hx rfl (hb hby hd) rfl (XT.i0_gt_f q) hr) k
theorem o_ifl_gt (H : oH p l e R s m args below meth c bc ml y rt Z n0 T h cells slots b I) {o : Int} {x z : Int64} (hd : decode bc pc = .ok (.ifCond .gt o, 3)) (ho : 0 ≤ (pc : Int) + o) (hp : ((pc : Int) + o).toNat = pt) (hp' : pc + 3 = pc') (kt : z < x → oG p e below s n0 kc ks J Q (T.setTop (mkF m pt L S))) (kf : ¬ z < x → oG p e below s n0 kc ks J Q (T.setTop (mkF m pc' L S))) : oG p e below s n0 kc ks J Q (T.setTop (mkF m pc L (.int (XT.cmpL x z) :: S))) := by
  by_cases q : z < x
  · have k := kt q
    obtain ⟨vm0, k0, locs, X, eT, N, hx, hby, hml, hZ, hown, hnm, hret, hlk, hn, hS, hk, hB, hI⟩ := H
    exact oG.go (fun t hr => XS.ifYes X.here hx rfl rfl (hb hby hd) rfl (XT.ll_gt_t q) ho hp hr) k
  · have k := kf q
    obtain ⟨vm0, k0, locs, X, eT, N, hx, hby, hml, hZ, hown, hnm, hret, hlk, hn, hS, hk, hB, hI⟩ := H
    subst hp'
    exact oG.go (fun t hr => XS.ifNo X.here hx rfl (hb hby hd) rfl (XT.ll_gt_f q) hr) k
theorem o_icmp_le (H : oH p l e R s m args below meth c bc ml y rt Z n0 T h cells slots b I) {o : Int} {x z : Int32} (hd : decode bc pc = .ok (.if_icmp .le o, 3)) (ho : 0 ≤ (pc : Int) + o) (hp : ((pc : Int) + o).toNat = pt) (hp' : pc + 3 = pc') (kt : ¬ z < x → oG p e below s n0 kc ks J Q (T.setTop (mkF m pt L S))) (kf : z < x → oG p e below s n0 kc ks J Q (T.setTop (mkF m pc' L S))) : oG p e below s n0 kc ks J Q (T.setTop (mkF m pc L (.int z :: .int x :: S))) := by
  by_cases q : ¬ z < x
  · have k := kt q
    obtain ⟨vm0, k0, locs, X, eT, N, hx, hby, hml, hZ, hown, hnm, hret, hlk, hn, hS, hk, hB, hI⟩ := H
    exact oG.go (fun t hr => XS.icmpYes X.here hx rfl rfl (hb hby hd) rfl (XT.ii_le_t q) ho hp hr) k
  · have k := kf (Classical.not_not.mp q)
    obtain ⟨vm0, k0, locs, X, eT, N, hx, hby, hml, hZ, hown, hnm, hret, hlk, hn, hS, hk, hB, hI⟩ := H
    subst hp'
    exact oG.go (fun t hr => XS.icmpNo X.here hx rfl (hb hby hd) rfl (XT.ii_le_f (Classical.not_not.mp q)) hr) k
theorem o_if_le (H : oH p l e R s m args below meth c bc ml y rt Z n0 T h cells slots b I) {o : Int} {x : Int32} (hd : decode bc pc = .ok (.ifCond .le o, 3)) (ho : 0 ≤ (pc : Int) + o) (hp : ((pc : Int) + o).toNat = pt) (hp' : pc + 3 = pc') (kt : ¬ 0 < x → oG p e below s n0 kc ks J Q (T.setTop (mkF m pt L S))) (kf : 0 < x → oG p e below s n0 kc ks J Q (T.setTop (mkF m pc' L S))) : oG p e below s n0 kc ks J Q (T.setTop (mkF m pc L (.int x :: S))) := by
  by_cases q : ¬ 0 < x
  · have k := kt q
    obtain ⟨vm0, k0, locs, X, eT, N, hx, hby, hml, hZ, hown, hnm, hret, hlk, hn, hS, hk, hB, hI⟩ := H
    exact oG.go (fun t hr => XS.ifYes X.here hx rfl rfl (hb hby hd) rfl (XT.i0_le_t q) ho hp hr) k
  · have k := kf (Classical.not_not.mp q)
    obtain ⟨vm0, k0, locs, X, eT, N, hx, hby, hml, hZ, hown, hnm, hret, hlk, hn, hS, hk, hB, hI⟩ := H
    subst hp'
    exact oG.go (fun t hr => XS.ifNo X.here hx rfl (hb hby hd) rfl (XT.i0_le_f (Classical.not_not.mp q)) hr) k
theorem o_ifl_le (H : oH p l e R s m args below meth c bc ml y rt Z n0 T h cells slots b I) {o : Int} {x z : Int64} (hd : decode bc pc = .ok (.ifCond .le o, 3)) (ho : 0 ≤ (pc : Int) + o) (hp : ((pc : Int) + o).toNat = pt) (hp' : pc + 3 = pc') (kt : ¬ z < x → oG p e below s n0 kc ks J Q (T.setTop (mkF m pt L S))) (kf : z < x → oG p e below s n0 kc ks J Q (T.setTop (mkF m pc' L S))) : oG p e below s n0 kc ks J Q (T.setTop (mkF m pc L (.int (XT.cmpL x z) :: S))) := by
  by_cases q : ¬ z < x
  · have k := kt q
    obtain ⟨vm0, k0, locs, X, eT, N, hx, hby, hml, hZ, hown, hnm, hret, hlk, hn, hS, hk, hB, hI⟩ := H
    exact oG.go (fun t hr => XS.ifYes X.here hx rfl rfl (hb hby hd) rfl (XT.ll_le_t q) ho hp hr) k
  · have k := kf (Classical.not_not.mp q)
    obtain ⟨vm0, k0, locs, X, eT, N, hx, hby, hml, hZ, hown, hnm, hret, hlk, hn, hS, hk, hB, hI⟩ := H
    subst hp'
    exact oG.go (fun t hr => XS.ifNo X.here hx rfl (hb hby hd) rfl (XT.ll_le_f (Classical.not_not.mp q)) hr) k
theorem o_icmp_t (H : oH p l e R s m args below meth c bc ml y rt Z n0 T h cells slots b I) {o : Int} {cd : ClassFile.Cond} {x z : Int32} (hd : decode bc pc = .ok (.if_icmp cd o, 3)) (hc : if_icmp.holds cd x z = true) (ho : 0 ≤ (pc : Int) + o) (hp : ((pc : Int) + o).toNat = pt) (k : oG p e below s n0 kc ks J Q (T.setTop (mkF m pt L S))) : oG p e below s n0 kc ks J Q (T.setTop (mkF m pc L (.int z :: .int x :: S))) := by
  obtain ⟨vm0, k0, locs, X, eT, N, hx, hby, hml, hZ, hown, hnm, hret, hlk, hn, hS, hk, hB, hI⟩ := H
  exact oG.go (fun t hr => XS.icmpYes X.here hx rfl rfl (hb hby hd) rfl hc ho hp hr) k
theorem o_icmp_f (H : oH p l e R s m args below meth c bc ml y rt Z n0 T h cells slots b I) {o : Int} {cd : ClassFile.Cond} {x z : Int32} (hd : decode bc pc = .ok (.if_icmp cd o, 3)) (hc : if_icmp.holds cd x z = false) (hp : pc + 3 = pc') (k : oG p e below s n0 kc ks J Q (T.setTop (mkF m pc' L S))) : oG p e below s n0 kc ks J Q (T.setTop (mkF m pc L (.int z :: .int x :: S))) := by
  obtain ⟨vm0, k0, locs, X, eT, N, hx, hby, hml, hZ, hown, hnm, hret, hlk, hn, hS, hk, hB, hI⟩ := H
  subst hp
  exact oG.go (fun t hr => XS.icmpNo X.here hx rfl (hb hby hd) rfl hc hr) k
theorem o_if_t (H : oH p l e R s m args below meth c bc ml y rt Z n0 T h cells slots b I) {o : Int} {cd : ClassFile.Cond} {x : Int32} (hd : decode bc pc = .ok (.ifCond cd o, 3)) (hc : ifCond.holds cd x = true) (ho : 0 ≤ (pc : Int) + o) (hp : ((pc : Int) + o).toNat = pt) (k : oG p e below s n0 kc ks J Q (T.setTop (mkF m pt L S))) : oG p e below s n0 kc ks J Q (T.setTop (mkF m pc L (.int x :: S))) := by
  obtain ⟨vm0, k0, locs, X, eT, N, hx, hby, hml, hZ, hown, hnm, hret, hlk, hn, hS, hk, hB, hI⟩ := H
  exact oG.go (fun t hr => XS.ifYes X.here hx rfl rfl (hb hby hd) rfl hc ho hp hr) k
theorem o_if_f (H : oH p l e R s m args below meth c bc ml y rt Z n0 T h cells slots b I) {o : Int} {cd : ClassFile.Cond} {x : Int32} (hd : decode bc pc = .ok (.ifCond cd o, 3)) (hc : ifCond.holds cd x = false) (hp : pc + 3 = pc') (k : oG p e below s n0 kc ks J Q (T.setTop (mkF m pc' L S))) : oG p e below s n0 kc ks J Q (T.setTop (mkF m pc L (.int x :: S))) := by
  obtain ⟨vm0, k0, locs, X, eT, N, hx, hby, hml, hZ, hown, hnm, hret, hlk, hn, hS, hk, hB, hI⟩ := H
  subst hp
  exact oG.go (fun t hr => XS.ifNo X.here hx rfl (hb hby hd) rfl hc hr) k
theorem o_ifnull_t (H : oH p l e R s m args below meth c bc ml y rt Z n0 T h cells slots b I) {o : Int} (hd : decode bc pc = .ok (.ifnull o, 3)) (ho : 0 ≤ (pc : Int) + o) (hp : ((pc : Int) + o).toNat = pt) (k : oG p e below s n0 kc ks J Q (T.setTop (mkF m pt L S))) : oG p e below s n0 kc ks J Q (T.setTop (mkF m pc L (.null :: S))) := by
  obtain ⟨vm0, k0, locs, X, eT, N, hx, hby, hml, hZ, hown, hnm, hret, hlk, hn, hS, hk, hB, hI⟩ := H
  exact oG.go (fun t hr => XS.ifnullYes X.here hx rfl rfl (hb hby hd) rfl ho hp hr) k
theorem o_ifnull_f (H : oH p l e R s m args below meth c bc ml y rt Z n0 T h cells slots b I) {o : Int} {a : Addr} (hd : decode bc pc = .ok (.ifnull o, 3)) (hp : pc + 3 = pc') (k : oG p e below s n0 kc ks J Q (T.setTop (mkF m pc' L S))) : oG p e below s n0 kc ks J Q (T.setTop (mkF m pc L (.ref a :: S))) := by
  obtain ⟨vm0, k0, locs, X, eT, N, hx, hby, hml, hZ, hown, hnm, hret, hlk, hn, hS, hk, hB, hI⟩ := H
  subst hp
  exact oG.go (fun t hr => XS.ifnullNo X.here hx rfl (hb hby hd) rfl hr) k
theorem o_ifnonnull_t (H : oH p l e R s m args below meth c bc ml y rt Z n0 T h cells slots b I) {o : Int} {a : Addr} (hd : decode bc pc = .ok (.ifnonnull o, 3)) (ho : 0 ≤ (pc : Int) + o) (hp : ((pc : Int) + o).toNat = pt) (k : oG p e below s n0 kc ks J Q (T.setTop (mkF m pt L S))) : oG p e below s n0 kc ks J Q (T.setTop (mkF m pc L (.ref a :: S))) := by
  obtain ⟨vm0, k0, locs, X, eT, N, hx, hby, hml, hZ, hown, hnm, hret, hlk, hn, hS, hk, hB, hI⟩ := H
  exact oG.go (fun t hr => XT.ifnonnullYes X.here hx rfl rfl (hb hby hd) rfl ho hp hr) k
theorem o_ifnonnull_f (H : oH p l e R s m args below meth c bc ml y rt Z n0 T h cells slots b I) {o : Int} (hd : decode bc pc = .ok (.ifnonnull o, 3)) (hp : pc + 3 = pc') (k : oG p e below s n0 kc ks J Q (T.setTop (mkF m pc' L S))) : oG p e below s n0 kc ks J Q (T.setTop (mkF m pc L (.null :: S))) := by
  obtain ⟨vm0, k0, locs, X, eT, N, hx, hby, hml, hZ, hown, hnm, hret, hlk, hn, hS, hk, hB, hI⟩ := H
  subst hp
  exact oG.go (fun t hr => XT.ifnonnullNo X.here hx rfl (hb hby hd) rfl hr) k
theorem o_acmp_t (H : oH p l e R s m args below meth c bc ml y rt Z n0 T h cells slots b I) {o : Int} {cd : ClassFile.ACond} {u w : Value} (hd : decode bc pc = .ok (.if_acmp cd o, 3)) (hu : u.isRef = true) (hw : w.isRef = true) (hc : XT.acmp cd u w = true) (ho : 0 ≤ (pc : Int) + o) (hp : ((pc : Int) + o).toNat = pt) (k : oG p e below s n0 kc ks J Q (T.setTop (mkF m pt L S))) : oG p e below s n0 kc ks J Q (T.setTop (mkF m pc L (w :: u :: S))) := by
  obtain ⟨vm0, k0, locs, X, eT, N, hx, hby, hml, hZ, hown, hnm, hret, hlk, hn, hS, hk, hB, hI⟩ := H
  exact oG.go (fun t hr => XT.acmpYes X.here hx rfl rfl (hb hby hd) rfl hu hw hc ho hp hr) k
theorem o_acmp_f (H : oH p l e R s m args below meth c bc ml y rt Z n0 T h cells slots b I) {o : Int} {cd : ClassFile.ACond} {u w : Value} (hd : decode bc pc = .ok (.if_acmp cd o, 3)) (hu : u.isRef = true) (hw : w.isRef = true) (hc : XT.acmp cd u w = false) (hp : pc + 3 = pc') (k : oG p e below s n0 kc ks J Q (T.setTop (mkF m pc' L S))) : oG p e below s n0 kc ks J Q (T.setTop (mkF m pc L (w :: u :: S))) := by
  obtain ⟨vm0, k0, locs, X, eT, N, hx, hby, hml, hZ, hown, hnm, hret, hlk, hn, hS, hk, hB, hI⟩ := H
  subst hp
  exact oG.go (fun t hr => XT.acmpNo X.here hx rfl (hb hby hd) rfl hu hw hc hr) k
theorem o_ldcI (H : oH p l e R s m args below meth c bc ml y rt Z n0 T h cells slots b I) {i : Nat} (v : Int32) (w : (Jvm.Cond.constant y.cls i v).before a0 Z = true) (hd : decode bc pc = .ok (.ldc i, 2)) (hp : pc + 2 = pc') (k : oG p e below s n0 kc ks J Q (T.setTop (mkF m pc' L (.int v :: S)))) : oG p e below s n0 kc ks J Q (T.setTop (mkF m pc L S)) := by
  obtain ⟨vm0, k0, locs, X, eT, N, hx, hby, hml, hZ, hown, hnm, hret, hlk, hn, hS, hk, hB, hI⟩ := H
  subst hp
  exact oG.go (X.ldcInt hx hown (mvT hZ w) (g := mkF m pc L S) rfl (hb hby hd)) k
theorem o_ldcJ (H : oH p l e R s m args below meth c bc ml y rt Z n0 T h cells slots b I) {i : Nat} (v : Int64) (w : (Jvm.Cond.constantLong y.cls i v).before a0 Z = true) (hd : decode bc pc = .ok (.ldc2_w i, 3)) (hp : pc + 3 = pc') (k : oG p e below s n0 kc ks J Q (T.setTop (mkF m pc' L (.long v :: S)))) : oG p e below s n0 kc ks J Q (T.setTop (mkF m pc L S)) := by
  obtain ⟨vm0, k0, locs, X, eT, N, hx, hby, hml, hZ, hown, hnm, hret, hlk, hn, hS, hk, hB, hI⟩ := H
  subst hp
  exact oG.go (X.ldc2Long hx hown (mvT hZ w) (g := mkF m pc L S) rfl (hb hby hd)) k
theorem o_ireturn (H : oH p l e R s m args below meth c bc ml y rt Z n0 T h cells slots b I) {z : Int32} (hrt : rt = some .int) (hd : decode bc pc = .ok (.ireturn, 1)) (hst : oSt I) (hIJ : ∀ vm, I vm → J vm) (hkc : cells ≤ kc) (hks : slots ≤ ks) (q : Q (some (.int z)) h) : oG p e below s n0 kc ks J Q (T.setTop (mkF m pc L (.int z :: S))) := by
  obtain ⟨vm0, k0, locs, X, eT, N, hx, hby, hml, hZ, hown, hnm, hret, hlk, hn, hS, hk, hB, hI⟩ := H
  obtain ⟨fs, hr, hrun, hended, hE⟩ := X.leaveW hS (by rw [eT]; exact hk) (v := (some (.int z))) (fun hh => by first | rfl | (rw [hret, hrt] at hh; cases hh)) hlk
  refine ⟨_, _, retI X hx (hret.trans hrt) (hb hby hd) hr, hrun, hended, _, _, rfl, ⟨?_, N, hIJ _ (hst _ _ X.warmed hI)⟩, hE.1, hE.2.1, hE.2.2.1, hE.2.2.2.mono hkc hks⟩
  show Q _ T.heap
  rw [eT]; exact q
theorem o_nreturn (H : oH p l e R s m args below meth c bc ml y rt Z n0 T h cells slots b I) {z : Int32} (t : FieldType) (hrt : rt = some t) (ht : t = .boolean ∨ t = .byte ∨ t = .char ∨ t = .short) (hd : decode bc pc = .ok (.ireturn, 1)) (hst : oSt I) (hIJ : ∀ vm, I vm → J vm) (hkc : cells ≤ kc) (hks : slots ≤ ks) (q : Q (some (.int (nar t z))) h) : oG p e below s n0 kc ks J Q (T.setTop (mkF m pc L (.int z :: S))) := by
  obtain ⟨vm0, k0, locs, X, eT, N, hx, hby, hml, hZ, hown, hnm, hret, hlk, hn, hS, hk, hB, hI⟩ := H
  obtain ⟨fs, hr, hrun, hended, hE⟩ := X.leaveW hS (by rw [eT]; exact hk) (v := (some (.int (nar t z)))) (fun hh => by first | rfl | (rw [hret, hrt] at hh; cases hh)) hlk
  refine ⟨_, _, retN X hx (hret.trans hrt) ht (hb hby hd) hr, hrun, hended, _, _, rfl, ⟨?_, N, hIJ _ (hst _ _ X.warmed hI)⟩, hE.1, hE.2.1, hE.2.2.1, hE.2.2.2.mono hkc hks⟩
  show Q _ T.heap
  rw [eT]; exact q
theorem o_lreturn (H : oH p l e R s m args below meth c bc ml y rt Z n0 T h cells slots b I) {z : Int64} (hrt : rt = some .long) (hd : decode bc pc = .ok (.lreturn, 1)) (hst : oSt I) (hIJ : ∀ vm, I vm → J vm) (hkc : cells ≤ kc) (hks : slots ≤ ks) (q : Q (some (.long z)) h) : oG p e below s n0 kc ks J Q (T.setTop (mkF m pc L (.long z :: S))) := by
  obtain ⟨vm0, k0, locs, X, eT, N, hx, hby, hml, hZ, hown, hnm, hret, hlk, hn, hS, hk, hB, hI⟩ := H
  obtain ⟨fs, hr, hrun, hended, hE⟩ := X.leaveW hS (by rw [eT]; exact hk) (v := (some (.long z))) (fun hh => by first | rfl | (rw [hret, hrt] at hh; cases hh)) hlk
  refine ⟨_, _, retOut X hx (w := .long z) (i := .lreturn) (hret.trans hrt) rfl (Or.inr (Or.inl ⟨rfl, rfl, z, rfl⟩)) (hb hby hd) hr, hrun, hended, _, _, rfl, ⟨?_, N, hIJ _ (hst _ _ X.warmed hI)⟩, hE.1, hE.2.1, hE.2.2.1, hE.2.2.2.mono hkc hks⟩
  show Q _ T.heap
  rw [eT]; exact q
theorem o_areturn (H : oH p l e R s m args below meth c bc ml y rt Z n0 T h cells slots b I) {v : Value} {t : FieldType} (hrt : rt = some t) (ht : t.isReference = true) (hv : v.isRef = true) (hna : narrow t v = v) (hd : decode bc pc = .ok (.areturn, 1)) (hst : oSt I) (hIJ : ∀ vm, I vm → J vm) (hkc : cells ≤ kc) (hks : slots ≤ ks) (q : Q (some v) h) : oG p e below s n0 kc ks J Q (T.setTop (mkF m pc L (v :: S))) := by
  obtain ⟨vm0, k0, locs, X, eT, N, hx, hby, hml, hZ, hown, hnm, hret, hlk, hn, hS, hk, hB, hI⟩ := H
  obtain ⟨fs, hr, hrun, hended, hE⟩ := X.leaveW hS (by rw [eT]; exact hk) (v := (some v)) (fun hh => by first | rfl | (rw [hret, hrt] at hh; cases hh)) hlk
  refine ⟨_, _, retOut X hx (w := v) (i := .areturn) (hret.trans hrt) hna (Or.inr (Or.inr (Or.inr (Or.inr ⟨rfl, ht, hv⟩)))) (hb hby hd) hr, hrun, hended, _, _, rfl, ⟨?_, N, hIJ _ (hst _ _ X.warmed hI)⟩, hE.1, hE.2.1, hE.2.2.1, hE.2.2.2.mono hkc hks⟩
  show Q _ T.heap
  rw [eT]; exact q
theorem o_return (H : oH p l e R s m args below meth c bc ml y rt Z n0 T h cells slots b I)  (hrt : rt = none) (hd : decode bc pc = .ok (.return_, 1)) (hst : oSt I) (hIJ : ∀ vm, I vm → J vm) (hkc : cells ≤ kc) (hks : slots ≤ ks) (q : Q none h) : oG p e below s n0 kc ks J Q (T.setTop (mkF m pc L [])) := by
  obtain ⟨vm0, k0, locs, X, eT, N, hx, hby, hml, hZ, hown, hnm, hret, hlk, hn, hS, hk, hB, hI⟩ := H
  obtain ⟨fs, hr, hrun, hended, hE⟩ := X.leaveW hS (by rw [eT]; exact hk) (v := none) (fun hh => by first | rfl | (rw [hret, hrt] at hh; cases hh)) hlk
  refine ⟨_, _, X.returnOut hx (hret.trans hrt) (hb hby hd) hr, hrun, hended, _, _, rfl, ⟨?_, N, hIJ _ (hst _ _ X.warmed hI)⟩, hE.1, hE.2.1, hE.2.2.1, hE.2.2.2.mono hkc hks⟩
  show Q _ T.heap
  rw [eT]; exact q
theorem o_new (H : oH p l e R s m args below meth c bc ml y rt Z n0 T h cells slots b I) {i nn : Nat} {C : String} (w : (Jvm.Cond.classLink y.cls i C).before a0 Z = true) (wi : (Jvm.Cond.instantiable C nn).before a0 Z = true) (wz : (Jvm.Cond.initialized C).before a0 Z = true) (hd : decode bc pc = .ok (.new i, 3)) (hp : pc + 3 = pc') (hc : cells + 1 ≤ R.cells) (hl : slots + nn ≤ R.slots)
    (k : ∀ (T' : State) (h' : Heap) (a : Addr), a = h.size → oH p l e R s m args below meth c bc ml y rt Z n0 T' h' (cells + 1) (slots + nn) b I → Ext h h' → Exa Z h' a C → (∀ {O nm d : String} {ty : FieldType}, Laid Z a0 C O nm d → parseFieldDescriptor d = some ty → Fld Z h' a O nm d (defaultValue ty)) → oG p e below s n0 kc ks J Q (T'.setTop (mkF m pc' L (.ref a :: S)))) : oG p e below s n0 kc ks J Q (T.setTop (mkF m pc L S)) := by
  obtain ⟨vm0, k0, locs, X, eT, N, hx, hby, hml, hZ, hown, hnm, hret, hlk, hn, hS, hk, hB, hI⟩ := H
  subst hp
  obtain ⟨T', h', X', e', E, A, D, -, st⟩ := newO X hx hZ hown w wi wz eT (g := mkF m pc L S) rfl (hb hby hd) hc hl
  exact oG.go st (k T' h' _ rfl ⟨vm0, k0, locs, X', e', N, hx, hby, hml, hZ, hown, hnm, hret, hlk, hn, hS, Nat.le_trans hk E.1, hB, hI⟩ E A (fun La ht => D La ht))
theorem o_initO (H : oH p l e R s m args below meth c bc ml y rt Z n0 T h cells slots b I) {i : Nat} {a : Addr} (w1 : (Jvm.Cond.methodLink y.cls i Lib.objectInit).before a0 Z = true) (w2 : (Jvm.Cond.instanceMethod Lib.objectInit).before a0 Z = true) (w3 : (Jvm.Cond.code Lib.objectInit ⟨#[0xb1]⟩ 1 none).before a0 Z = true) (hd : decode bc pc = .ok (.invokespecial i, 3)) (hp : pc + 3 = pc') (hsz : L.size = ml) (hf : 1 ≤ R.frames) (hlo : (S.map fun v => v.category).sum + 12 ≤ R.locals)
    (k : ∀ (T' : State), oH p l e R s m args below meth c bc ml y rt Z n0 T' h cells slots b I → oG p e below s n0 kc ks J Q (T'.setTop (mkF m pc' L S))) : oG p e below s n0 kc ks J Q (T.setTop (mkF m pc L (.ref a :: S))) := by
  obtain ⟨vm0, k0, locs, X, eT, N, hx, hby, hml, hZ, hown, hnm, hret, hlk, hn, hS, hk, hB, hI⟩ := H
  subst hp
  obtain ⟨T', X', e', st⟩ := initO X hx hZ hown w1 w2 w3 eT (g := mkF m pc L (.ref a :: S)) rfl (by rw [hml]; exact hsz) rfl (hb hby hd) hf (W := (S.map fun v => v.category).sum) (by show 2 * 0 + _ ≤ _; omega) hlo
  exact oG.go st (k T' ⟨vm0, k0, locs, X', e', N, hx, hby, hml, hZ, hown, hnm, hret, hlk, hn, hS, hk, hB, hI⟩)
theorem o_getF (H : oH p l e R s m args below meth c bc ml y rt Z n0 T h cells slots b I) {i : Nat} {a : Addr} {C f d host : String} {v : Value} (w : (Jvm.Cond.fieldLink y.cls i C f d).before a0 Z = true ∨ (Jvm.Cond.fieldLinkNest y.cls i C f d host).before a0 Z = true) (F : Fld Z h a C f d v) (hd : decode bc pc = .ok (.getfield i, 3)) (hp : pc + 3 = pc')
    (k : ∀ (T' : State), oH p l e R s m args below meth c bc ml y rt Z n0 T' h cells slots b I → oG p e below s n0 kc ks J Q (T'.setTop (mkF m pc' L (v :: S)))) : oG p e below s n0 kc ks J Q (T.setTop (mkF m pc L (.ref a :: S))) := by
  obtain ⟨vm0, k0, locs, X, eT, N, hx, hby, hml, hZ, hown, hnm, hret, hlk, hn, hS, hk, hB, hI⟩ := H
  subst hp
  obtain ⟨T', X', e', st⟩ := getF X hx hZ hown (host := host) w Via.refl eT F (g := mkF m pc L (.ref a :: S)) rfl rfl (hb hby hd)
  exact oG.go st (k T' ⟨vm0, k0, locs, X', e', N, hx, hby, hml, hZ, hown, hnm, hret, hlk, hn, hS, hk, hB, hI⟩)
theorem o_putF (H : oH p l e R s m args below meth c bc ml y rt Z n0 T h cells slots b I) {i kk : Nat} {a : Addr} {C K f d host : String} {v old : Value} {ty : FieldType} (w : (Jvm.Cond.fieldLink y.cls i C f d).before a0 Z = true ∨ (Jvm.Cond.fieldLinkNest y.cls i C f d host).before a0 Z = true) (F : Fld Z h a C f d old) (E : Exa Z h a K) (wl : (Jvm.Cond.lays K C f d).before a0 Z = true ∨ ((Jvm.Cond.laysFinal K C f d).before a0 Z = true ∧ y.cls = C ∧ y.name = "<init>")) (wi : (Jvm.Cond.instantiable K kk).before a0 Z = true) (hty : parseFieldDescriptor d = some ty) (hna : narrow ty v = v) (hft : fits ty v = true) (ha : n0 ≤ a) (hd : decode bc pc = .ok (.putfield i, 3)) (hp : pc + 3 = pc')
    (k : ∀ (T' : State) (h' : Heap), oH p l e R s m args below meth c bc ml y rt Z n0 T' h' cells slots false I → Wr h h' a (Jvm.RoadKit.slotOf Z C f d) v → oG p e below s n0 kc ks J Q (T'.setTop (mkF m pc' L S))) : oG p e below s n0 kc ks J Q (T.setTop (mkF m pc L (v :: .ref a :: S))) := by
  obtain ⟨vm0, k0, locs, X, eT, N, hx, hby, hml, hZ, hown, hnm, hret, hlk, hn, hS, hk, hB, hI⟩ := H
  subst hp
  obtain ⟨T', h', X', e', W, st⟩ := putF X hx hZ hown (host := host) w Via.refl eT F E (wl.imp id fun q => ⟨q.1, q.2.1, hnm.trans q.2.2⟩) wi hty hna hft (g := mkF m pc L (v :: .ref a :: S)) rfl rfl (hb hby hd)
  exact oG.go st (k T' h' ⟨vm0, k0, _, X', e', Fr.snoc X' N ha, hx, hby, hml, hZ, hown, hnm, hret, hlk, hn, hS, (by rw [W.size]; exact hk), (fun q => (nomatch q)), hI⟩ W)
theorem o_putFN (H : oH p l e R s m args below meth c bc ml y rt Z n0 T h cells slots b I) {i kk : Nat} {a : Addr} {C K f d : String} {v v' old : Value} {ty : FieldType} (w : (Jvm.Cond.fieldLink y.cls i C f d).before a0 Z = true) (F : Fld Z h a C f d old) (E : Exa Z h a K) (wl : (Jvm.Cond.lays K C f d).before a0 Z = true ∨ ((Jvm.Cond.laysFinal K C f d).before a0 Z = true ∧ y.cls = C ∧ y.name = "<init>")) (wi : (Jvm.Cond.instantiable K kk).before a0 Z = true) (hty : parseFieldDescriptor d = some ty) (hna : narrow ty v = v') (hft : fits ty v' = true) (ha : n0 ≤ a) (hd : decode bc pc = .ok (.putfield i, 3)) (hp : pc + 3 = pc')
    (k : ∀ (T' : State) (h' : Heap), oH p l e R s m args below meth c bc ml y rt Z n0 T' h' cells slots false I → Wr h h' a (Jvm.RoadKit.slotOf Z C f d) v' → oG p e below s n0 kc ks J Q (T'.setTop (mkF m pc' L S))) : oG p e below s n0 kc ks J Q (T.setTop (mkF m pc L (v :: .ref a :: S))) := by
  obtain ⟨vm0, k0, locs, X, eT, N, hx, hby, hml, hZ, hown, hnm, hret, hlk, hn, hS, hk, hB, hI⟩ := H
  subst hp
  obtain ⟨T', h', X', e', W, st⟩ := putFN X hx hZ hown w Via.refl eT F E (wl.imp id fun q => ⟨q.1, q.2.1, hnm.trans q.2.2⟩) wi hty hna hft (g := mkF m pc L (v :: .ref a :: S)) rfl rfl (hb hby hd)
  exact oG.go st (k T' h' ⟨vm0, k0, _, X', e', Fr.snoc X' N ha, hx, hby, hml, hZ, hown, hnm, hret, hlk, hn, hS, (by rw [W.size]; exact hk), (fun q => (nomatch q)), hI⟩ W)
theorem o_getS (H : oH p l e R s m args below meth c bc ml y rt Z n0 T h cells slots b I) {i : Nat} {C f d host : String} {v : Value} (w : (Jvm.Cond.fieldLink y.cls i C f d).before a0 Z = true ∨ (Jvm.Cond.fieldLinkNest y.cls i C f d host).before a0 Z = true) (F : Sta Z h C f d v) (hd : decode bc pc = .ok (.getstatic i, 3)) (hp : pc + 3 = pc')
    (k : ∀ (T' : State), oH p l e R s m args below meth c bc ml y rt Z n0 T' h cells slots b I → oG p e below s n0 kc ks J Q (T'.setTop (mkF m pc' L (v :: S)))) : oG p e below s n0 kc ks J Q (T.setTop (mkF m pc L S)) := by
  obtain ⟨vm0, k0, locs, X, eT, N, hx, hby, hml, hZ, hown, hnm, hret, hlk, hn, hS, hk, hB, hI⟩ := H
  subst hp
  obtain ⟨T', X', e', st⟩ := getS2 X hx hZ hown (host := host) w Via.refl eT F (g := mkF m pc L S) rfl (hb hby hd)
  exact oG.go st (k T' ⟨vm0, k0, locs, X', e', N, hx, hby, hml, hZ, hown, hnm, hret, hlk, hn, hS, hk, hB, hI⟩)
theorem o_instY (H : oH p l e R s m args below meth c bc ml y rt Z n0 T h cells slots b I) {i : Nat} {a : Addr} {K : String} (w : (Jvm.Cond.classLink y.cls i K).before a0 Z = true) (Ii : Ins Z h a K true) (hd : decode bc pc = .ok (.instanceof i, 3)) (hp : pc + 3 = pc') (k : ∀ (T' : State), oH p l e R s m args below meth c bc ml y rt Z n0 T' h cells slots b I → oG p e below s n0 kc ks J Q (T'.setTop (mkF m pc' L (.int 1 :: S)))) : oG p e below s n0 kc ks J Q (T.setTop (mkF m pc L (.ref a :: S))) := by
  obtain ⟨vm0, k0, locs, X, eT, N, hx, hby, hml, hZ, hown, hnm, hret, hlk, hn, hS, hk, hB, hI⟩ := H
  subst hp
  obtain ⟨T', X', e', st⟩ := instY X hx hZ hown w eT Ii (g := mkF m pc L (.ref a :: S)) rfl rfl (hb hby hd)
  exact oG.go st (k T' ⟨vm0, k0, locs, X', e', N, hx, hby, hml, hZ, hown, hnm, hret, hlk, hn, hS, hk, hB, hI⟩)
theorem o_castY (H : oH p l e R s m args below meth c bc ml y rt Z n0 T h cells slots b I) {i : Nat} {a : Addr} {K : String} (w : (Jvm.Cond.classLink y.cls i K).before a0 Z = true) (Ii : Ins Z h a K true) (hd : decode bc pc = .ok (.checkcast i, 3)) (hp : pc + 3 = pc') (k : ∀ (T' : State), oH p l e R s m args below meth c bc ml y rt Z n0 T' h cells slots b I → oG p e below s n0 kc ks J Q (T'.setTop (mkF m pc' L (.ref a :: S)))) : oG p e below s n0 kc ks J Q (T.setTop (mkF m pc L (.ref a :: S))) := by
  obtain ⟨vm0, k0, locs, X, eT, N, hx, hby, hml, hZ, hown, hnm, hret, hlk, hn, hS, hk, hB, hI⟩ := H
  subst hp
  obtain ⟨T', X', e', st⟩ := castY X hx hZ hown w eT Ii (g := mkF m pc L (.ref a :: S)) rfl rfl (hb hby hd)
  exact oG.go st (k T' ⟨vm0, k0, locs, X', e', N, hx, hby, hml, hZ, hown, hnm, hret, hlk, hn, hS, hk, hB, hI⟩)
theorem o_instNo (H : oH p l e R s m args below meth c bc ml y rt Z n0 T h cells slots b I) {i : Nat} {a : Addr} {C K : String} (w : (Jvm.Cond.classLink y.cls i K).before a0 Z = true) (E : Exa Z h a C) (F : ∃ c t, Z.vm.findClass C = some c ∧ Z.vm.findClass K = some t ∧ Z.vm.assignable c t = false) (hd : decode bc pc = .ok (.instanceof i, 3)) (hp : pc + 3 = pc') (k : ∀ (T' : State), oH p l e R s m args below meth c bc ml y rt Z n0 T' h cells slots b I → oG p e below s n0 kc ks J Q (T'.setTop (mkF m pc' L (.int 0 :: S)))) : oG p e below s n0 kc ks J Q (T.setTop (mkF m pc L (.ref a :: S))) := by
  obtain ⟨vm0, k0, locs, X, eT, N, hx, hby, hml, hZ, hown, hnm, hret, hlk, hn, hS, hk, hB, hI⟩ := H
  subst hp
  obtain ⟨T', X', e', st⟩ := instNo X hx hZ hown w eT E F (g := mkF m pc L (.ref a :: S)) rfl rfl (hb hby hd)
  exact oG.go st (k T' ⟨vm0, k0, locs, X', e', N, hx, hby, hml, hZ, hown, hnm, hret, hlk, hn, hS, hk, hB, hI⟩)
theorem o_instNull (H : oH p l e R s m args below meth c bc ml y rt Z n0 T h cells slots b I) {i : Nat} (hd : decode bc pc = .ok (.instanceof i, 3)) (hp : pc + 3 = pc') (k : oG p e below s n0 kc ks J Q (T.setTop (mkF m pc' L (.int 0 :: S)))) : oG p e below s n0 kc ks J Q (T.setTop (mkF m pc L (.null :: S))) := by
  obtain ⟨vm0, k0, locs, X, eT, N, hx, hby, hml, hZ, hown, hnm, hret, hlk, hn, hS, hk, hB, hI⟩ := H
  subst hp
  exact oG.go (X.instanceofNull hx (g := mkF m pc L (.null :: S)) rfl rfl (hb hby hd)) k
theorem o_aaloadC (H : oH p l e R s m args below meth c bc ml y rt Z n0 T h cells slots b I) {a : Addr} {j : Int32} {cl : Cell} {ty : FieldType} (v : Value) (A : Arr Z h a cl ty) (hty : ty.isReference = true) (hin : ¬ (j < 0 ∨ cl.slots.size ≤ j.toNatClampNeg)) (hv : cl.slots[j.toNatClampNeg]? = some v) (hd : decode bc pc = .ok (.aaload, 1)) (hp : pc + 1 = pc') (k : oG p e below s n0 kc ks J Q (T.setTop (mkF m pc' L (v :: S)))) : oG p e below s n0 kc ks J Q (T.setTop (mkF m pc L (.int j :: .ref a :: S))) := by
  obtain ⟨vm0, k0, locs, X, eT, N, hx, hby, hml, hZ, hown, hnm, hret, hlk, hn, hS, hk, hB, hI⟩ := H
  subst hp
  exact oG.go (fun t hr => X.aaload hx (j := j) (v := v) (by rw [eT]; exact A.1) (State.isArrayOf_alike hZ.alike A.2.1) hty A.2.2 hin hv (g := mkF m pc L (.int j :: .ref a :: S)) rfl rfl (hb hby hd) t hr) k
theorem o_kext {h' : Heap} (K : Keep h h' []) : Ext h h' := ⟨K.1, fun a c q => K.2.1 a c q nin0⟩
theorem o_etrans {h' h'' : Heap} (E : Ext h h') (E' : Ext h' h'') : Ext h h'' := ⟨Nat.le_trans E.1 E'.1, fun a c q => E'.2 a c (E.2 a c q)⟩
/-- C's chain of superclasses, ended by O, meets no class that can be made of the name K -/
theorem o_noSub {C K : String} {n : Nat} (wk : (Jvm.Cond.instantiable K n).before a0 Z = true) (kd : ∃ c k, Z.vm.findClass C = some c ∧ Z.vm.classes[c]? = some k ∧ k.kind = .ordinary) (hn : C ≠ K) (nf : ∀ c t, Z.vm.findClass C = some c → Z.vm.findClass K = some t → ∀ fuel, Z.vm.isSubclassAux fuel c t = false) : ∃ c t, Z.vm.findClass C = some c ∧ Z.vm.findClass K = some t ∧ Z.vm.assignable c t = false := by
  obtain ⟨c, k, h1, h2, h3⟩ := kd
  obtain ⟨t, kt, g1, g2, g3, g4, -⟩ := Cond.instantiable_spec wk
  have ne := ids_ne h1 g1 hn
  have g5 : kt.isInterface = false := (Bool.or_eq_false_iff.mp g4).1
  refine ⟨c, t, h1, g1, ?_⟩
  show Z.vm.assignableAux (255 + 1) c t = false
  simp [Vm.assignableAux, ne, h2, g2, h3, g3, g5, Vm.isSubclass, nf c t h1 g1]
theorem o_subRoot {O K : String} {n : Nat} (w : (Jvm.Cond.noSuperclass O).before a0 Z = true) (wk : (Jvm.Cond.instantiable K n).before a0 Z = true) (hn : O ≠ K) : NS Z O K := by
  obtain ⟨c, k, h1, h2, h3, -, -⟩ := Cond.noSuperclass_spec w
  obtain ⟨t, kt, g1, g2, g3, g4, -⟩ := Cond.instantiable_spec wk
  have ne := ids_ne h1 g1 hn
  refine ⟨c, t, h1, g1, fun fuel => ?_⟩
  cases fuel with
  | zero => rfl
  | succ f => simp [Vm.isSubclassAux, ne, h2, h3]
theorem o_ns {C S' K : String} {n : Nat} (w : (Jvm.Cond.superclass C S').before a0 Z = true) (wk : (Jvm.Cond.instantiable K n).before a0 Z = true) (N : NS Z C K) (hn : C ≠ K) : ∃ c t, Z.vm.findClass C = some c ∧ Z.vm.findClass K = some t ∧ Z.vm.assignable c t = false := by
  obtain ⟨c, h0⟩ := found_sup w
  obtain ⟨p, k, kp, h1, h2, h3, h4, h5, -, h7⟩ := Cond.superclass_spec h0 w
  refine o_noSub wk ⟨c, k, h0, h2, h5⟩ hn fun c' t' q1 q2 => ?_
  obtain ⟨c1, t1, r1, r2, r3⟩ := N
  cases r1.symm.trans q1
  cases r2.symm.trans q2
  exact r3
/-- an array, by the list of what it holds -/
def oA (ty : FieldType) (Z : State) (h : Heap) (a : Addr) (vs : List Value) : Prop := vs.length < 2 ^ 31 ∧ ∃ cl : Cell, Arr Z h a cl ty ∧ cl.slots = vs.toArray
theorem oA.ext {ty : FieldType} {h' : Heap} {a : Addr} {vs : List Value} (A : oA ty Z h a vs) (E : Ext h h') : oA ty Z h' a vs := by
  obtain ⟨q, cl, A, r⟩ := A; exact ⟨q, cl, A.ext E, r⟩
theorem oA.other {ty : FieldType} {h' : Heap} {a b : Addr} {sl : Nat} {v : Value} {vs : List Value} (A : oA ty Z h b vs) (W : Wr h h' a sl v) (ne : b ≠ a) : oA ty Z h' b vs := by
  obtain ⟨q, cl, A, r⟩ := A; exact ⟨q, cl, A.other W ne, r⟩
theorem oA.keep {ty : FieldType} {h' : Heap} {a : Addr} {ws : List Addr} {vs : List Value} (A : oA ty Z h a vs) (K : Keep h h' ws) (ne : a ∉ ws) : oA ty Z h' a vs := by
  obtain ⟨q, cl, A, r⟩ := A; exact ⟨q, cl, ⟨K.2.1 a cl A.1 ne, A.2⟩, r⟩
theorem oA.lt {ty : FieldType} {a : Addr} {vs : List Value} (A : oA ty Z h a vs) : a < h.size := by
  obtain ⟨q, cl, A, r⟩ := A; exact A.lt
theorem oA.same {ty : FieldType} {h' : Heap} {a : Addr} {j : Nat} {v : Value} {vs : List Value} (A : oA ty Z h a vs) (W : Wr h h' a j v) : oA ty Z h' a (vs.set j v) := by
  obtain ⟨q, cl, A, r⟩ := A
  refine ⟨by rw [List.length_set]; exact q, _, A.same W, ?_⟩
  show cl.slots.setIfInBounds j v = _
  rw [r, List.setIfInBounds_toArray]
theorem o_inb {cl : Cell} {vs : List Value} {j : Int32} {i : Nat} (r : cl.slots = vs.toArray) (h0 : j.toInt = (i : Int)) (h1 : i < vs.length) : ¬ (j < 0 ∨ cl.slots.size ≤ j.toNatClampNeg) := by
  have e0 : (0 : Int32).toInt = 0 := rfl
  have e1 : cl.slots.size = vs.length := by rw [r]; simp
  rw [Int32.lt_iff_toInt_lt, e0, e1]
  simp only [Int32.toNatClampNeg]; omega
theorem o_nat {j : Int32} {i : Nat} (h0 : j.toInt = (i : Int)) : j.toNatClampNeg = i := by
  simp only [Int32.toNatClampNeg]; omega
theorem o_elt {cl : Cell} {vs : List Value} {j : Int32} {i : Nat} {v : Value} (r : cl.slots = vs.toArray) (h0 : j.toInt = (i : Int)) (hv : vs[i]? = some v) : cl.slots[j.toNatClampNeg]? = some v := by
  rw [r, o_nat h0]; simpa using hv
theorem o_lt_of {vs : List Value} {i : Nat} {v : Value} (hv : vs[i]? = some v) : i < vs.length := (List.getElem?_eq_some_iff.mp hv).1
theorem o_newarr (H : oH p l e R s m args below meth c bc ml y rt Z n0 T h cells slots b I) {aty : ArrayType} {z : Int32} (cap n : Nat) (w : (Jvm.Cond.arrayClass (newarray.typeOf aty)).before a0 Z = true) (hz : z.toInt = (n : Int)) (hcap : n ≤ cap) (hb8 : cap * 8 ≤ 536870912) (hd : decode bc pc = .ok (.newarray aty, 2)) (hp : pc + 2 = pc') (hc : cells + 1 ≤ R.cells) (hl : slots + cap ≤ R.slots)
    (k : ∀ (T' : State) (h' : Heap) (a : Addr), a = h.size → oH p l e R s m args below meth c bc ml y rt Z n0 T' h' (cells + 1) (slots + cap) b I → Ext h h' → oA (newarray.typeOf aty) Z h' a (List.replicate n (defaultValue (newarray.typeOf aty))) → oG p e below s n0 kc ks J Q (T'.setTop (mkF m pc' L (.ref a :: S)))) : oG p e below s n0 kc ks J Q (T.setTop (mkF m pc L (.int z :: S))) := by
  obtain ⟨vm0, k0, locs, X, eT, N, hx, hby, hml, hZ, hown, hnm, hret, hlk, hn, hS, hk, hB, hI⟩ := H
  subst hp
  have e0 : (0 : Int32).toInt = 0 := rfl
  obtain ⟨T', h', kk, X', e', E, A, st⟩ := newP X hx hZ w eT (g := mkF m pc L (.int z :: S)) rfl (hb hby hd) rfl (by rw [Int32.lt_iff_toInt_lt, e0]; omega) (cap := cap) (by simp only [Int32.toNatClampNeg]; omega) hb8 hc hl
  refine oG.go st (k T' h' _ rfl ⟨vm0, k0, locs, X', e', N, hx, hby, hml, hZ, hown, hnm, hret, hlk, hn, hS, Nat.le_trans hk E.1, hB, hI⟩ E ⟨?_, _, A, ?_⟩)
  · have := Int32.toInt_lt z
    rw [List.length_replicate]; omega
  · show Array.replicate z.toNatClampNeg _ = _
    rw [o_nat hz, ← List.toArray_replicate]
theorem o_iaload (H : oH p l e R s m args below meth c bc ml y rt Z n0 T h cells slots b I) {a : Addr} {j : Int32} {vs : List Value} (i : Nat) (v : Value) (A : oA .int Z h a vs) (h0 : j.toInt = (i : Int)) (hv : vs[i]? = some v) (hd : decode bc pc = .ok (.iaload, 1)) (hp : pc + 1 = pc') (k : oG p e below s n0 kc ks J Q (T.setTop (mkF m pc' L (v :: S)))) : oG p e below s n0 kc ks J Q (T.setTop (mkF m pc L (.int j :: .ref a :: S))) := by
  obtain ⟨vm0, k0, locs, X, eT, N, hx, hby, hml, hZ, hown, hnm, hret, hlk, hn, hS, hk, hB, hI⟩ := H
  subst hp
  obtain ⟨-, cl, A, r⟩ := A
  exact oG.go (fun t hr => X.iaload hx (j := j) (v := v) (by rw [eT]; exact A.1) (State.isArrayOf_alike hZ.alike A.2.1) A.2.2 (o_inb r h0 (o_lt_of hv)) (o_elt r h0 hv) (g := mkF m pc L (.int j :: .ref a :: S)) rfl rfl (hb hby hd) t hr) k
theorem o_caload (H : oH p l e R s m args below meth c bc ml y rt Z n0 T h cells slots b I) {a : Addr} {j : Int32} {vs : List Value} (i : Nat) (v : Value) (A : oA .char Z h a vs) (h0 : j.toInt = (i : Int)) (hv : vs[i]? = some v) (hd : decode bc pc = .ok (.caload, 1)) (hp : pc + 1 = pc') (k : oG p e below s n0 kc ks J Q (T.setTop (mkF m pc' L (v :: S)))) : oG p e below s n0 kc ks J Q (T.setTop (mkF m pc L (.int j :: .ref a :: S))) := by
  obtain ⟨vm0, k0, locs, X, eT, N, hx, hby, hml, hZ, hown, hnm, hret, hlk, hn, hS, hk, hB, hI⟩ := H
  subst hp
  obtain ⟨-, cl, A, r⟩ := A
  exact oG.go (fun t hr => X.caload hx (j := j) (v := v) (by rw [eT]; exact A.1) (State.isArrayOf_alike hZ.alike A.2.1) A.2.2 (o_inb r h0 (o_lt_of hv)) (o_elt r h0 hv) (g := mkF m pc L (.int j :: .ref a :: S)) rfl rfl (hb hby hd) t hr) k
theorem o_baload (H : oH p l e R s m args below meth c bc ml y rt Z n0 T h cells slots b I) {a : Addr} {j : Int32} {vs : List Value} (i : Nat) (v : Value) (A : oA .byte Z h a vs) (h0 : j.toInt = (i : Int)) (hv : vs[i]? = some v) (hd : decode bc pc = .ok (.baload, 1)) (hp : pc + 1 = pc') (k : oG p e below s n0 kc ks J Q (T.setTop (mkF m pc' L (v :: S)))) : oG p e below s n0 kc ks J Q (T.setTop (mkF m pc L (.int j :: .ref a :: S))) := by
  obtain ⟨vm0, k0, locs, X, eT, N, hx, hby, hml, hZ, hown, hnm, hret, hlk, hn, hS, hk, hB, hI⟩ := H
  subst hp
  obtain ⟨-, cl, A, r⟩ := A
  exact oG.go (fun t hr => X.baloadBytes hx (j := j) (v := v) (by rw [eT]; exact A.1) (State.isArrayOf_alike hZ.alike A.2.1) A.2.2 (o_inb r h0 (o_lt_of hv)) (o_elt r h0 hv) (g := mkF m pc L (.int j :: .ref a :: S)) rfl rfl (hb hby hd) t hr) k
theorem o_laload (H : oH p l e R s m args below meth c bc ml y rt Z n0 T h cells slots b I) {a : Addr} {j : Int32} {vs : List Value} (i : Nat) (v : Value) (A : oA .long Z h a vs) (h0 : j.toInt = (i : Int)) (hv : vs[i]? = some v) (hd : decode bc pc = .ok (.laload, 1)) (hp : pc + 1 = pc') (k : oG p e below s n0 kc ks J Q (T.setTop (mkF m pc' L (v :: S)))) : oG p e below s n0 kc ks J Q (T.setTop (mkF m pc L (.int j :: .ref a :: S))) := by
  obtain ⟨vm0, k0, locs, X, eT, N, hx, hby, hml, hZ, hown, hnm, hret, hlk, hn, hS, hk, hB, hI⟩ := H
  subst hp
  obtain ⟨-, cl, A, r⟩ := A
  exact oG.go (fun t hr => X.laload hx (j := j) (v := v) (by rw [eT]; exact A.1) (State.isArrayOf_alike hZ.alike A.2.1) A.2.2 (o_inb r h0 (o_lt_of hv)) (o_elt r h0 hv) (g := mkF m pc L (.int j :: .ref a :: S)) rfl rfl (hb hby hd) t hr) k
theorem o_arraylength (H : oH p l e R s m args below meth c bc ml y rt Z n0 T h cells slots b I) {a : Addr} {ty : FieldType} {vs : List Value} (z : Int32) (A : oA ty Z h a vs) (hz : vs.length.toInt32 = z) (hd : decode bc pc = .ok (.arraylength, 1)) (hp : pc + 1 = pc') (k : oG p e below s n0 kc ks J Q (T.setTop (mkF m pc' L (.int z :: S)))) : oG p e below s n0 kc ks J Q (T.setTop (mkF m pc L (.ref a :: S))) := by
  obtain ⟨vm0, k0, locs, X, eT, N, hx, hby, hml, hZ, hown, hnm, hret, hlk, hn, hS, hk, hB, hI⟩ := H
  subst hp
  obtain ⟨-, cl, A, r⟩ := A
  have e1 : cl.slots.size.toInt32 = z := by rw [← hz, r]; simp
  exact oG.go (fun t hr => X.arraylength hx (by rw [eT]; exact A.1) (State.isArrayOf_alike hZ.alike A.2.1) (g := mkF m pc L (.ref a :: S)) rfl rfl (hb hby hd) t (by rw [e1]; exact hr)) k
theorem o_iastore (H : oH p l e R s m args below meth c bc ml y rt Z n0 T h cells slots b I) {a : Addr} {j : Int32} {z : Int32} {vs : List Value} (i : Nat) (A : oA .int Z h a vs) (h0 : j.toInt = (i : Int)) (h1 : i < vs.length) (ha : n0 ≤ a) (hd : decode bc pc = .ok (.iastore, 1)) (hp : pc + 1 = pc')
    (k : ∀ (T' : State) (h' : Heap), oH p l e R s m args below meth c bc ml y rt Z n0 T' h' cells slots false I → Wr h h' a i (.int z) → oA .int Z h' a (vs.set i (.int z)) → oG p e below s n0 kc ks J Q (T'.setTop (mkF m pc' L S))) : oG p e below s n0 kc ks J Q (T.setTop (mkF m pc L (.int z :: .int j :: .ref a :: S))) := by
  obtain ⟨vm0, k0, locs, X, eT, N, hx, hby, hml, hZ, hown, hnm, hret, hlk, hn, hS, hk, hB, hI⟩ := H
  subst hp
  have A' := A
  obtain ⟨-, cl, A, r⟩ := A
  obtain ⟨T', h', X', e', W, st⟩ := stI X hx hZ eT A (j := j) (o_inb r h0 h1) (g := mkF m pc L (.int z :: .int j :: .ref a :: S)) rfl rfl (hb hby hd)
  have en := o_nat h0
  have W2 : Wr h h' a i _ := en ▸ W
  exact oG.go st (k T' h' ⟨vm0, k0, _, X', e', Fr.snoc X' N ha, hx, hby, hml, hZ, hown, hnm, hret, hlk, hn, hS, (by rw [W2.size]; exact hk), (fun q => (nomatch q)), hI⟩ W2 (A'.same W2))
theorem o_castore (H : oH p l e R s m args below meth c bc ml y rt Z n0 T h cells slots b I) {a : Addr} {j : Int32} {z : Int32} {vs : List Value} (i : Nat) (A : oA .char Z h a vs) (h0 : j.toInt = (i : Int)) (h1 : i < vs.length) (ha : n0 ≤ a) (hd : decode bc pc = .ok (.castore, 1)) (hp : pc + 1 = pc')
    (k : ∀ (T' : State) (h' : Heap), oH p l e R s m args below meth c bc ml y rt Z n0 T' h' cells slots false I → Wr h h' a i (.int (nar .char z)) → oA .char Z h' a (vs.set i (.int (nar .char z))) → oG p e below s n0 kc ks J Q (T'.setTop (mkF m pc' L S))) : oG p e below s n0 kc ks J Q (T.setTop (mkF m pc L (.int z :: .int j :: .ref a :: S))) := by
  obtain ⟨vm0, k0, locs, X, eT, N, hx, hby, hml, hZ, hown, hnm, hret, hlk, hn, hS, hk, hB, hI⟩ := H
  subst hp
  have A' := A
  obtain ⟨-, cl, A, r⟩ := A
  obtain ⟨T', h', X', e', W, st⟩ := stC X hx hZ eT A (j := j) (o_inb r h0 h1) (g := mkF m pc L (.int z :: .int j :: .ref a :: S)) rfl rfl (hb hby hd)
  have en := o_nat h0
  have W2 : Wr h h' a i _ := en ▸ W
  exact oG.go st (k T' h' ⟨vm0, k0, _, X', e', Fr.snoc X' N ha, hx, hby, hml, hZ, hown, hnm, hret, hlk, hn, hS, (by rw [W2.size]; exact hk), (fun q => (nomatch q)), hI⟩ W2 (A'.same W2))
theorem o_bastore (H : oH p l e R s m args below meth c bc ml y rt Z n0 T h cells slots b I) {a : Addr} {j : Int32} {z : Int32} {vs : List Value} (i : Nat) (A : oA .byte Z h a vs) (h0 : j.toInt = (i : Int)) (h1 : i < vs.length) (ha : n0 ≤ a) (hd : decode bc pc = .ok (.bastore, 1)) (hp : pc + 1 = pc')
    (k : ∀ (T' : State) (h' : Heap), oH p l e R s m args below meth c bc ml y rt Z n0 T' h' cells slots false I → Wr h h' a i (.int (nar .byte z)) → oA .byte Z h' a (vs.set i (.int (nar .byte z))) → oG p e below s n0 kc ks J Q (T'.setTop (mkF m pc' L S))) : oG p e below s n0 kc ks J Q (T.setTop (mkF m pc L (.int z :: .int j :: .ref a :: S))) := by
  obtain ⟨vm0, k0, locs, X, eT, N, hx, hby, hml, hZ, hown, hnm, hret, hlk, hn, hS, hk, hB, hI⟩ := H
  subst hp
  have A' := A
  obtain ⟨-, cl, A, r⟩ := A
  obtain ⟨T', h', X', e', W, st⟩ := stB X hx hZ eT A (j := j) (o_inb r h0 h1) (g := mkF m pc L (.int z :: .int j :: .ref a :: S)) rfl rfl (hb hby hd)
  have en := o_nat h0
  have W2 : Wr h h' a i _ := en ▸ W
  exact oG.go st (k T' h' ⟨vm0, k0, _, X', e', Fr.snoc X' N ha, hx, hby, hml, hZ, hown, hnm, hret, hlk, hn, hS, (by rw [W2.size]; exact hk), (fun q => (nomatch q)), hI⟩ W2 (A'.same W2))
theorem o_lastore (H : oH p l e R s m args below meth c bc ml y rt Z n0 T h cells slots b I) {a : Addr} {j : Int32} {z : Int64} {vs : List Value} (i : Nat) (A : oA .long Z h a vs) (h0 : j.toInt = (i : Int)) (h1 : i < vs.length) (ha : n0 ≤ a) (hd : decode bc pc = .ok (.lastore, 1)) (hp : pc + 1 = pc')
    (k : ∀ (T' : State) (h' : Heap), oH p l e R s m args below meth c bc ml y rt Z n0 T' h' cells slots false I → Wr h h' a i (.long z) → oA .long Z h' a (vs.set i (.long z)) → oG p e below s n0 kc ks J Q (T'.setTop (mkF m pc' L S))) : oG p e below s n0 kc ks J Q (T.setTop (mkF m pc L (.long z :: .int j :: .ref a :: S))) := by
  obtain ⟨vm0, k0, locs, X, eT, N, hx, hby, hml, hZ, hown, hnm, hret, hlk, hn, hS, hk, hB, hI⟩ := H
  subst hp
  have A' := A
  obtain ⟨-, cl, A, r⟩ := A
  obtain ⟨T', h', X', e', W, st⟩ := stJ X hx hZ eT A (j := j) (o_inb r h0 h1) (g := mkF m pc L (.long z :: .int j :: .ref a :: S)) rfl rfl (hb hby hd)
  have en := o_nat h0
  have W2 : Wr h h' a i _ := en ▸ W
  exact oG.go st (k T' h' ⟨vm0, k0, _, X', e', Fr.snoc X' N ha, hx, hby, hml, hZ, hown, hnm, hret, hlk, hn, hS, (by rw [W2.size]; exact hk), (fun q => (nomatch q)), hI⟩ W2 (A'.same W2))
theorem o_static (H : oH p l e R s m args below meth c bc ml y rt Z n0 T h cells slots b I) {yc : MethodName} {bcc : ByteArray} {maxL i : Nat} {rtc : Option FieldType} {rm : Room} {Q' : Option Value → Heap → Prop} {St : List Value} (argsL : List Value) (S : List Value)
    {Ic Jc : Vm → Prop} (con : oC l Z n0 Ic Jc yc bcc maxL rtc rm rm.cells rm.slots argsL.toArray h Q') (wl : (Jvm.Cond.methodLink y.cls i yc).before a0 Z = true) (ws : (Jvm.Cond.static yc).before a0 Z = true) (wz : (Jvm.Cond.initialized yc.cls).before a0 Z = true) (wc : (Jvm.Cond.code yc bcc maxL rtc).before a0 Z = true) (hy : yc.cls ≠ "java/lang/invoke/MethodHandle" ∧ yc.cls ≠ "java/lang/invoke/VarHandle") (hlen : ∀ sig, parseMethodDescriptor yc.desc = some sig → argsL.length = sig.parameters.length) (hst : St = argsL.reverse ++ S) (hsz : L.size = ml) (hf : rm.frames + 1 ≤ R.frames) (hlo : (S.map fun v => v.category).sum + (maxL + 11) + rm.locals ≤ R.locals) (hc : cells + rm.cells ≤ R.cells) (hs : slots + rm.slots ≤ R.slots)
    (hd : decode bc pc = .ok (.invokestatic i, 3)) (hp : pc + 3 = pc') (hIc : ∀ vm, I vm → Ic vm) (hstc : oSt Ic) (k : ∀ (T' : State) (v : Option Value) (h' : Heap), oH p l e R s m args below meth c bc ml y rt Z n0 T' h' (cells + rm.cells) (slots + rm.slots) false Jc → Q' v h' → oG p e below s n0 kc ks J Q (T'.setTop (mkF m pc' L (v.toList ++ S)))) : oG p e below s n0 kc ks J Q (T.setTop (mkF m pc L St)) := by
  obtain ⟨vm0, k0, locs, X, eT, N, hx, hby, hml, hZ, hown, hnm, hret, hlk, hn, hS, hk, hB, hI⟩ := H
  subst hp
  subst hst
  obtain ⟨v, _, ⟨T', L1, k1, n1⟩, -, X', hS', hgr, ⟨Lc, hQ, l', y', z'⟩, st⟩ := callSS X hx (y := yc) hown (mvT hZ wl) (mvT hZ ws) (mvT hZ wz) (mvT hZ wc) hy (o_back (W := (S.map fun v => v.category).sum) con hZ (hIc _ hI) hstc wc wz hf hlo) (g := mkF m pc L (argsL.reverse ++ S)) rfl (by rw [hml]; exact hsz) (argsL := argsL) (rest := S) hlen rfl (by show 2 * 0 + _ ≤ _; omega) (hb hby hd) (fun _ _ => ⟨rfl, eT, hc, hs⟩)
  dsimp only [Pt.U, Pt.locs, Pt.cells, Pt.slots] at X' l' y' z' st hQ hS' hgr
  subst l' y' z'
  exact oG.go (fun _ hr => st.trans hr) (k _ _ _ ⟨T'.vm, T'.heap.size, _, X', rfl, Fr.app N hQ.2.1, hx, hby, hml, State.Warmed39.trans (t := s.setVm vm0) hZ hS'.1, (by rw [hS'.1.alike.findClass]; exact hown), hnm, hret, hlk, hn, hS.trans hS' (Nat.le_trans (by rw [eT]; exact hk) hgr), Nat.le_refl _, (fun q => (nomatch q)), hQ.2.2⟩ hQ.1)
theorem o_special (H : oH p l e R s m args below meth c bc ml y rt Z n0 T h cells slots b I) {yc : MethodName} {bcc : ByteArray} {maxL i : Nat} {rm : Room} {a : Addr} {Q' : Option Value → Heap → Prop} {St : List Value} (argsL : List Value) (S : List Value)
    {Ic Jc : Vm → Prop} (con : oC l Z n0 Ic Jc yc bcc maxL none rm rm.cells rm.slots (.ref a :: argsL).toArray h Q') (hy1 : yc.name = "<init>") (wl : (Jvm.Cond.methodLink y.cls i yc).before a0 Z = true) (ws : (Jvm.Cond.instanceMethod yc).before a0 Z = true) (wz : (Jvm.Cond.initialized yc.cls).before a0 Z = true) (wc : (Jvm.Cond.code yc bcc maxL none).before a0 Z = true) (hy : yc.cls ≠ "java/lang/invoke/MethodHandle" ∧ yc.cls ≠ "java/lang/invoke/VarHandle") (hlen : ∀ sig, parseMethodDescriptor yc.desc = some sig → argsL.length = sig.parameters.length) (hst : St = argsL.reverse ++ .ref a :: S) (hsz : L.size = ml) (hf : rm.frames + 1 ≤ R.frames) (hlo : (S.map fun v => v.category).sum + (maxL + 11) + rm.locals ≤ R.locals) (hc : cells + rm.cells ≤ R.cells) (hs : slots + rm.slots ≤ R.slots)
    (hd : decode bc pc = .ok (.invokespecial i, 3)) (hp : pc + 3 = pc') (hIc : ∀ vm, I vm → Ic vm) (hstc : oSt Ic) (k : ∀ (T' : State) (v : Option Value) (h' : Heap), oH p l e R s m args below meth c bc ml y rt Z n0 T' h' (cells + rm.cells) (slots + rm.slots) false Jc → Q' v h' → oG p e below s n0 kc ks J Q (T'.setTop (mkF m pc' L (v.toList ++ S)))) : oG p e below s n0 kc ks J Q (T.setTop (mkF m pc L St)) := by
  obtain ⟨vm0, k0, locs, X, eT, N, hx, hby, hml, hZ, hown, hnm, hret, hlk, hn, hS, hk, hB, hI⟩ := H
  subst hp
  subst hst
  obtain ⟨v, _, ⟨T', L1, k1, n1⟩, -, X', hS', hgr, ⟨Lc, hQ, l', y', z'⟩, st⟩ := X.specialBackS hx (y := yc) hy1 hown (mvT hZ wl) (mvT hZ ws) (mvT hZ wc) hy (o_back (W := (S.map fun v => v.category).sum) con hZ (hIc _ hI) hstc wc wz hf hlo) (g := mkF m pc L (argsL.reverse ++ .ref a :: S)) rfl (by rw [hml]; exact hsz) (Steps.refl _) (a := a) (argsL := argsL) (rest := S) hlen rfl (by show 2 * 0 + _ ≤ _; omega) (hb hby hd) (fun _ _ => ⟨rfl, eT, hc, hs⟩)
  dsimp only [Pt.U, Pt.locs, Pt.cells, Pt.slots] at X' l' y' z' st hQ hS' hgr
  subst l' y' z'
  exact oG.go (fun _ hr => st.trans hr) (k _ _ _ ⟨T'.vm, T'.heap.size, _, X', rfl, Fr.app N hQ.2.1, hx, hby, hml, State.Warmed39.trans (t := s.setVm vm0) hZ hS'.1, (by rw [hS'.1.alike.findClass]; exact hown), hnm, hret, hlk, hn, hS.trans hS' (Nat.le_trans (by rw [eT]; exact hk) hgr), Nat.le_refl _, (fun q => (nomatch q)), hQ.2.2⟩ hQ.1)
theorem o_virtual (H : oH p l e R s m args below meth c bc ml y rt Z n0 T h cells slots b I) {yc zc : MethodName} {K : String} {bcc : ByteArray} {maxL i : Nat} {rtc : Option FieldType} {rm : Room} {a : Addr} {Q' : Option Value → Heap → Prop} {St : List Value} (argsL : List Value) (S : List Value)
    {Ic Jc : Vm → Prop} (con : oC l Z n0 Ic Jc zc bcc maxL rtc rm rm.cells rm.slots (.ref a :: argsL).toArray h Q') (E : Exa Z h a K) (wl : (Jvm.Cond.methodLink y.cls i yc).before a0 Z = true) (wd : (Jvm.Cond.declares yc).before a0 Z = true) (hnf : ∀ {s' : State}, Z.Warmed39 s'.vm → NotFace s' yc) (wsel : (Jvm.Cond.selects K yc zc).before a0 Z = true) (ws : (Jvm.Cond.instanceMethod zc).before a0 Z = true) (wz : (Jvm.Cond.initialized zc.cls).before a0 Z = true) (wc : (Jvm.Cond.code zc bcc maxL rtc).before a0 Z = true) (hy : yc.cls ≠ "java/lang/invoke/MethodHandle" ∧ yc.cls ≠ "java/lang/invoke/VarHandle") (hlen : ∀ sig, parseMethodDescriptor yc.desc = some sig → argsL.length = sig.parameters.length) (hst : St = argsL.reverse ++ .ref a :: S) (hsz : L.size = ml) (hf : rm.frames + 1 ≤ R.frames) (hlo : (S.map fun v => v.category).sum + (maxL + 11) + rm.locals ≤ R.locals) (hc : cells + rm.cells ≤ R.cells) (hs : slots + rm.slots ≤ R.slots)
    (hd : decode bc pc = .ok (.invokevirtual i, 3)) (hp : pc + 3 = pc') (hIc : ∀ vm, I vm → Ic vm) (hstc : oSt Ic) (k : ∀ (T' : State) (v : Option Value) (h' : Heap), oH p l e R s m args below meth c bc ml y rt Z n0 T' h' (cells + rm.cells) (slots + rm.slots) false Jc → Q' v h' → oG p e below s n0 kc ks J Q (T'.setTop (mkF m pc' L (v.toList ++ S)))) : oG p e below s n0 kc ks J Q (T.setTop (mkF m pc L St)) := by
  obtain ⟨vm0, k0, locs, X, eT, N, hx, hby, hml, hZ, hown, hnm, hret, hlk, hn, hS, hk, hB, hI⟩ := H
  subst hp
  subst hst
  obtain ⟨cq, kq, qa, qb, qc⟩ := isOf (s := s.setVm vm0) hZ eT E
  obtain ⟨v, _, ⟨T', L1, k1, n1⟩, -, X', hS', hgr, ⟨Lc, hQ, l', y', z'⟩, st⟩ := X.virtualBackS hx (y := yc) (z := zc) hown (mvT hZ wl) (mvT hZ wd) (hnf hZ) (mvT hZ wsel) (mvT hZ ws) hy (o_back (W := (S.map fun v => v.category).sum) con hZ (hIc _ hI) hstc wc wz hf hlo) qa qc (g := mkF m pc L (argsL.reverse ++ .ref a :: S)) rfl (by rw [hml]; exact hsz) (Steps.refl _) (argsL := argsL) (rest := S) hlen rfl (by show 2 * 0 + _ ≤ _; omega) (hb hby hd) (fun _ _ => ⟨rfl, eT, hc, hs⟩)
  dsimp only [Pt.U, Pt.locs, Pt.cells, Pt.slots] at X' l' y' z' st hQ hS' hgr
  subst l' y' z'
  exact oG.go (fun _ hr => st.trans hr) (k _ _ _ ⟨T'.vm, T'.heap.size, _, X', rfl, Fr.app N hQ.2.1, hx, hby, hml, State.Warmed39.trans (t := s.setVm vm0) hZ hS'.1, (by rw [hS'.1.alike.findClass]; exact hown), hnm, hret, hlk, hn, hS.trans hS' (Nat.le_trans (by rw [eT]; exact hk) hgr), Nat.le_refl _, (fun q => (nomatch q)), hQ.2.2⟩ hQ.1)
theorem o_ldcS (H : oH p l e R s m args below meth c bc ml y rt Z n0 T h cells slots b I) {i n : Nat} {text : String} (w : (Jvm.Cond.stringLink y.cls i text).before a0 Z = true) (wS : ∀ a ∈ Bundle.stringAtoms, a.before a0 Z = true) (hd : decode bc pc = .ok (.ldc i, 2)) (hp : pc + 2 = pc') (hn4 : 4 * text.toList.length ≤ n) (hbig : n ≤ 536870912) (hc : cells + 2 ≤ R.cells) (hl : slots + (n + 4) ≤ R.slots)
    (k : ∀ (T' : State) (h' : Heap) (a : Addr), oH p l e R s m args below meth c bc ml y rt Z n0 T' h' (cells + 2) (slots + (n + 4)) false (fun _ => True) → Ext h h' → oG p e below s n0 kc ks J Q (T'.setTop (mkF m pc' L (.ref a :: S)))) : oG p e below s n0 kc ks J Q (T.setTop (mkF m pc L S)) := by
  obtain ⟨vm0, k0, locs, X, eT, N, hx, hby, hml, hZ, hown, hnm, hret, hlk, hn, hS, hk, hB, hI⟩ := H
  subst hp
  obtain ⟨a, T', h', k1, X', e', E, hS', hk', hZ', hown', st⟩ := ldcS X hx hZ hown w wS eT hS hk (g := mkF m pc L S) rfl (hb hby hd) hn4 hbig hc hl
  exact oG.go st (k T' h' a ⟨T'.vm, k1, locs, X', e', N, hx, hby, hml, hZ', hown', hnm, hret, hlk, hn, hS', hk', (fun q => (nomatch q)), trivial⟩ E)
theorem o_ldcSV (H : oH p l e R s m args below meth c bc ml y rt Z n0 T h cells slots b I) {i n : Nat} {text : String} (hbt : b = true) (hib : ∀ vm, I vm → IB Z vm []) (w : (Jvm.Cond.stringLink y.cls i text).before a0 Z = true) (wS : ∀ a ∈ Bundle.stringAtoms, a.before a0 Z = true) (hh : Jvm.Lit.constHeld Z y.cls i) (hcw : Jvm.Lit.compactW.before a0 Z = true) {vs : List Value} {z : Int32} (ht : (∀ c ∈ text.toList, c.toNat < 256) ∧ text.toList.map (fun c => Value.int (Jvm.Lit.byteI c.toNat.toUInt16)) = vs) (hz : ¬ z < 0) (hl0 : z.toNatClampNeg = vs.length)
    (hd : decode bc pc = .ok (.ldc i, 2)) (hp : pc + 2 = pc') (hn4 : 4 * text.toList.length ≤ n) (hbig : n ≤ 536870912) (hc : cells + 2 ≤ R.cells) (hl : slots + (n + 4) ≤ R.slots)
    (k : ∀ (T' : State) (h' : Heap) (a bv : Addr), oH p l e R s m args below meth c bc ml y rt Z n0 T' h' (cells + 2) (slots + (n + 4)) false (fun vm => Lit (Z.setVm vm) y.cls i a) → Ext h h' → Exa Z h' a "java/lang/String" → Fld Z h' a "java/lang/String" "coder" "B" (.int 0) → Fld Z h' a "java/lang/String" "value" "[B" (.ref bv) → oG p e below s n0 kc ks J Q (T'.setTop (mkF m pc' L (.ref a :: S)))) : oG p e below s n0 kc ks J Q (T.setTop (mkF m pc L S)) := by
  obtain ⟨vm0, k0, locs, X, eT, N, hx, hby, hml, hZ, hown, hnm, hret, hlk, hn, hS, hk, hB, hI⟩ := H
  subst hp
  obtain ⟨hE, hF⟩ := hB hbt
  obtain ⟨a, T', h', k1, bv, kk, X', e', E, hS', hk', hZ', hown', x1, x2, x3, x4, x5, x6, x7, x8, st⟩ := ldcSVL X hx hZ hown w wS eT hS hk hF hE.2 (hib _ hI) (by simp) hh hcw ht hz hl0 (g := mkF m pc L S) rfl (hb hby hd) hn4 hbig hc hl
  exact oG.go st (k T' h' a bv ⟨T'.vm, k1, locs, X', e', N, hx, hby, hml, hZ', hown', hnm, hret, hlk, hn, hS', hk', (fun q => (nomatch q)), x8⟩ E x1 x2 x3)
theorem o_ldcA (H : oH p l e R s m args below meth c bc ml y rt Z n0 T h cells slots b I) {i : Nat} {text : String} {a : Addr} (w : (Jvm.Cond.stringLink y.cls i text).before a0 Z = true) (hL : ∀ vm, I vm → Lit (Z.setVm vm) y.cls i a) (hd : decode bc pc = .ok (.ldc i, 2)) (hp : pc + 2 = pc') (k : oG p e below s n0 kc ks J Q (T.setTop (mkF m pc' L (.ref a :: S)))) : oG p e below s n0 kc ks J Q (T.setTop (mkF m pc L S)) := by
  obtain ⟨vm0, k0, locs, X, eT, N, hx, hby, hml, hZ, hown, hnm, hret, hlk, hn, hS, hk, hB, hI⟩ := H
  subst hp
  exact oG.go (ldcAgain X hx hZ hown w (a := a) (hL _ hI) (g := mkF m pc L S) rfl (hb hby hd)) k
theorem o_nf {yc : MethodName} {K : String} (w : (Jvm.Cond.selects K yc yc).before a0 Z = true) : ∀ {s' : State}, Z.Warmed39 s'.vm → NotFace s' yc := fun {s'} hZ => notFace_of_selects (args := #[]) (mvT hZ w)
theorem n_lt (x z : Int32) : x < z ↔ x.toInt < z.toInt := Int32.lt_iff_toInt_lt
theorem n_eq (x z : Int32) : x = z ↔ x.toInt = z.toInt := Int32.toInt_inj.symm
theorem n_ltJ (x z : Int64) : x < z ↔ x.toInt < z.toInt := Int64.lt_iff_toInt_lt
theorem n_eqJ (x z : Int64) : x = z ↔ x.toInt = z.toInt := Int64.toInt_inj.symm
theorem n_and (x z : Int32) (h : 0 ≤ z.toInt) : 0 ≤ (x &&& z).toInt ∧ (x &&& z).toInt ≤ z.toInt := by
  have q : (x &&& z).toBitVec.toNat = x.toBitVec.toNat &&& z.toBitVec.toNat := by show (x.toBitVec &&& z.toBitVec).toNat = _; rw [BitVec.toNat_and]
  have o : x.toBitVec.toNat &&& z.toBitVec.toNat ≤ z.toBitVec.toNat := Nat.and_le_right
  have lm := z.toBitVec.isLt
  change 0 ≤ z.toBitVec.toInt at h
  show 0 ≤ (x &&& z).toBitVec.toInt ∧ (x &&& z).toBitVec.toInt ≤ z.toBitVec.toInt
  rw [BitVec.toInt_eq_toNat_cond] at h
  simp only [BitVec.toInt_eq_toNat_cond, q]
  split at h <;> (repeat' split) <;> omega
theorem n_andJ (x z : Int64) (h : 0 ≤ z.toInt) : 0 ≤ (x &&& z).toInt ∧ (x &&& z).toInt ≤ z.toInt := by
  have q : (x &&& z).toBitVec.toNat = x.toBitVec.toNat &&& z.toBitVec.toNat := by show (x.toBitVec &&& z.toBitVec).toNat = _; rw [BitVec.toNat_and]
  have o : x.toBitVec.toNat &&& z.toBitVec.toNat ≤ z.toBitVec.toNat := Nat.and_le_right
  have lm := z.toBitVec.isLt
  change 0 ≤ z.toBitVec.toInt at h
  show 0 ≤ (x &&& z).toBitVec.toInt ∧ (x &&& z).toBitVec.toInt ≤ z.toBitVec.toInt
  rw [BitVec.toInt_eq_toNat_cond] at h
  simp only [BitVec.toInt_eq_toNat_cond, q]
  split at h <;> (repeat' split) <;> omega
theorem n_rem (x z : Int32) (d : Int) (hd : 0 < d) (hz : z.toInt = d) (hx : 0 ≤ x.toInt) : (x % z).toInt = x.toInt % d := by
  rw [Int32.toInt_mod, hz, Int.tmod_eq_emod_of_nonneg hx]
theorem n_nat (x : Int32) (n : Nat) (h0 : 0 ≤ x.toInt) (h1 : x.toInt < n) : ∃ i : Fin n, x = Int32.ofNat i.1 := by
  refine ⟨⟨x.toInt.toNat, by omega⟩, ?_⟩
  rw [n_eq]
  have := Int32.toInt_lt x
  have e : (Int32.ofNat x.toInt.toNat).toInt = x.toInt.toNat := Int32.toInt_ofNat_of_lt (by omega)
  show x.toInt = (Int32.ofNat x.toInt.toNat).toInt
  rw [e]; omega
end Own
theorem w0 {Z : State} {a0 : Array Value} (hw : ∀ d ∈ tables_1, d.before a0 Z = true) : (Jvm.Cond.constant "com/example/bare_triage/baretriage/snapshot/ActivityInfoEqualsPinLaw" (25 : Nat) (2147483647 : Int32)).before a0 Z = true := hw _ (List.mem_of_getElem? (i := 0) rfl)
theorem w1 {Z : State} {a0 : Array Value} (hw : ∀ d ∈ tables_1, d.before a0 Z = true) : (Jvm.Cond.classLink "com/example/bare_triage/baretriage/snapshot/ActivityInfoEqualsPinLaw" (26 : Nat) "com/example/bare_triage/baretriage/snapshot/ActivityInfo").before a0 Z = true := hw _ (List.mem_of_getElem? (i := 1) rfl)
theorem w2 {Z : State} {a0 : Array Value} (hw : ∀ d ∈ tables_1, d.before a0 Z = true) : (Jvm.Cond.instantiable "com/example/bare_triage/baretriage/snapshot/ActivityInfo" (3 : Nat)).before a0 Z = true := hw _ (List.mem_of_getElem? (i := 2) rfl)
theorem w3 {Z : State} {a0 : Array Value} (hw : ∀ d ∈ tables_1, d.before a0 Z = true) : (Jvm.Cond.initialized "com/example/bare_triage/baretriage/snapshot/ActivityInfo").before a0 Z = true := hw _ (List.mem_of_getElem? (i := 3) rfl)
theorem w4 {Z : State} {a0 : Array Value} (hw : ∀ d ∈ tables_1, d.before a0 Z = true) : (Jvm.Cond.methodLink "com/example/bare_triage/baretriage/snapshot/ActivityInfoEqualsPinLaw" (28 : Nat) ({ cls := "com/example/bare_triage/baretriage/snapshot/ActivityInfoEqualsPinLaw", name := "state", desc := "(I)Lcom/example/bare_triage/baretriage/snapshot/ActivityState;" } : Jvm.MethodName)).before a0 Z = true := hw _ (List.mem_of_getElem? (i := 4) rfl)
theorem w5 {Z : State} {a0 : Array Value} (hw : ∀ d ∈ tables_1, d.before a0 Z = true) : (Jvm.Cond.static ({ cls := "com/example/bare_triage/baretriage/snapshot/ActivityInfoEqualsPinLaw", name := "state", desc := "(I)Lcom/example/bare_triage/baretriage/snapshot/ActivityState;" } : Jvm.MethodName)).before a0 Z = true := hw _ (List.mem_of_getElem? (i := 5) rfl)
theorem w6 {Z : State} {a0 : Array Value} (hw : ∀ d ∈ tables_1, d.before a0 Z = true) : (Jvm.Cond.initialized "com/example/bare_triage/baretriage/snapshot/ActivityInfoEqualsPinLaw").before a0 Z = true := hw _ (List.mem_of_getElem? (i := 6) rfl)
theorem w7 {Z : State} {a0 : Array Value} (hw : ∀ d ∈ tables_1, d.before a0 Z = true) : (Jvm.Cond.code ({ cls := "com/example/bare_triage/baretriage/snapshot/ActivityInfoEqualsPinLaw", name := "state", desc := "(I)Lcom/example/bare_triage/baretriage/snapshot/ActivityState;" } : Jvm.MethodName) method_2_code (1 : Nat) (Option.some (Jvm.ClassFile.FieldType.object "com/example/bare_triage/baretriage/snapshot/ActivityState"))).before a0 Z = true := hw _ (List.mem_of_getElem? (i := 7) rfl)
theorem w8 {Z : State} {a0 : Array Value} (hw : ∀ d ∈ tables_1, d.before a0 Z = true) : (Jvm.Cond.fieldLink "com/example/bare_triage/baretriage/snapshot/ActivityInfoEqualsPinLaw" (7 : Nat) "com/example/bare_triage/baretriage/snapshot/ActivityState" "VISIBLE" "Lcom/example/bare_triage/baretriage/snapshot/ActivityState;").before a0 Z = true := hw _ (List.mem_of_getElem? (i := 8) rfl)
theorem w9 {Z : State} {a0 : Array Value} (hw : ∀ d ∈ tables_1, d.before a0 Z = true) : (Jvm.Cond.initialized "com/example/bare_triage/baretriage/snapshot/ActivityState").before a0 Z = true := hw _ (List.mem_of_getElem? (i := 9) rfl)
theorem w10 {Z : State} {a0 : Array Value} (hw : ∀ d ∈ tables_1, d.before a0 Z = true) : (Jvm.Cond.laysStatic "com/example/bare_triage/baretriage/snapshot/ActivityState" "VISIBLE" "Lcom/example/bare_triage/baretriage/snapshot/ActivityState;").before a0 Z = true := hw _ (List.mem_of_getElem? (i := 10) rfl)
theorem w11 {Z : State} {a0 : Array Value} (hw : ∀ d ∈ tables_1, d.before a0 Z = true) : (Jvm.Cond.methodLink "com/example/bare_triage/baretriage/snapshot/ActivityInfoEqualsPinLaw" (34 : Nat) ({ cls := "com/example/bare_triage/baretriage/snapshot/ActivityInfo", name := "<init>", desc := "(Lcom/example/bare_triage/baretriage/snapshot/ActivityState;ZI)V" } : Jvm.MethodName)).before a0 Z = true := hw _ (List.mem_of_getElem? (i := 11) rfl)
theorem w12 {Z : State} {a0 : Array Value} (hw : ∀ d ∈ tables_1, d.before a0 Z = true) : (Jvm.Cond.instanceMethod ({ cls := "com/example/bare_triage/baretriage/snapshot/ActivityInfo", name := "<init>", desc := "(Lcom/example/bare_triage/baretriage/snapshot/ActivityState;ZI)V" } : Jvm.MethodName)).before a0 Z = true := hw _ (List.mem_of_getElem? (i := 12) rfl)
theorem w13 {Z : State} {a0 : Array Value} (hw : ∀ d ∈ tables_1, d.before a0 Z = true) : (Jvm.Cond.code ({ cls := "com/example/bare_triage/baretriage/snapshot/ActivityInfo", name := "<init>", desc := "(Lcom/example/bare_triage/baretriage/snapshot/ActivityState;ZI)V" } : Jvm.MethodName) prog_31_method_1_code (4 : Nat) (Option.none : Option Jvm.ClassFile.FieldType)).before a0 Z = true := hw _ (List.mem_of_getElem? (i := 13) rfl)
theorem w14 {Z : State} {a0 : Array Value} (hw : ∀ d ∈ tables_1, d.before a0 Z = true) : (Jvm.Cond.methodLink "com/example/bare_triage/baretriage/snapshot/ActivityInfo" (1 : Nat) ({ cls := "java/lang/Object", name := "<init>", desc := "()V" } : Jvm.MethodName)).before a0 Z = true := hw _ (List.mem_of_getElem? (i := 14) rfl)
theorem w15 {Z : State} {a0 : Array Value} (hw : ∀ d ∈ tables_1, d.before a0 Z = true) : (Jvm.Cond.instanceMethod ({ cls := "java/lang/Object", name := "<init>", desc := "()V" } : Jvm.MethodName)).before a0 Z = true := hw _ (List.mem_of_getElem? (i := 15) rfl)
theorem w16 {Z : State} {a0 : Array Value} (hw : ∀ d ∈ tables_1, d.before a0 Z = true) : (Jvm.Cond.code ({ cls := "java/lang/Object", name := "<init>", desc := "()V" } : Jvm.MethodName) object_method_1_code (1 : Nat) (Option.none : Option Jvm.ClassFile.FieldType)).before a0 Z = true := hw _ (List.mem_of_getElem? (i := 16) rfl)
theorem w17 {Z : State} {a0 : Array Value} (hw : ∀ d ∈ tables_1, d.before a0 Z = true) : (Jvm.Cond.stringLink "com/example/bare_triage/baretriage/snapshot/ActivityInfo" (7 : Nat) "state").before a0 Z = true := hw _ (List.mem_of_getElem? (i := 17) rfl)
theorem w18 {Z : State} {a0 : Array Value} (hw : ∀ d ∈ tables_1, d.before a0 Z = true) : (Jvm.Cond.initialized "java/lang/String").before a0 Z = true := hw _ (List.mem_of_getElem? (i := 18) rfl)
theorem w19 {Z : State} {a0 : Array Value} (hw : ∀ d ∈ tables_1, d.before a0 Z = true) : (Jvm.Cond.instantiable "java/lang/String" (4 : Nat)).before a0 Z = true := hw _ (List.mem_of_getElem? (i := 19) rfl)
theorem w20 {Z : State} {a0 : Array Value} (hw : ∀ d ∈ tables_1, d.before a0 Z = true) : (Jvm.Cond.arrayClass Jvm.ClassFile.FieldType.byte).before a0 Z = true := hw _ (List.mem_of_getElem? (i := 20) rfl)
theorem w21 {Z : State} {a0 : Array Value} (hw : ∀ d ∈ tables_1, d.before a0 Z = true) : (Jvm.Cond.laysFinal "java/lang/String" "java/lang/String" "value" "[B").before a0 Z = true := hw _ (List.mem_of_getElem? (i := 21) rfl)
theorem w22 {Z : State} {a0 : Array Value} (hw : ∀ d ∈ tables_1, d.before a0 Z = true) : (Jvm.Cond.laysFinal "java/lang/String" "java/lang/String" "coder" "B").before a0 Z = true := hw _ (List.mem_of_getElem? (i := 22) rfl)
theorem w23 {Z : State} {a0 : Array Value} (hw : ∀ d ∈ tables_1, d.before a0 Z = true) : (Jvm.Cond.soleField "java/lang/String" "value").before a0 Z = true := hw _ (List.mem_of_getElem? (i := 23) rfl)
theorem w24 {Z : State} {a0 : Array Value} (hw : ∀ d ∈ tables_1, d.before a0 Z = true) : (Jvm.Cond.soleField "java/lang/String" "coder").before a0 Z = true := hw _ (List.mem_of_getElem? (i := 24) rfl)
theorem w25 {Z : State} {a0 : Array Value} (hw : ∀ d ∈ tables_1, d.before a0 Z = true) : (Jvm.Cond.methodLink "com/example/bare_triage/baretriage/snapshot/ActivityInfo" (9 : Nat) ({ cls := "java/util/Objects", name := "requireNonNull", desc := "(Ljava/lang/Object;Ljava/lang/String;)Ljava/lang/Object;" } : Jvm.MethodName)).before a0 Z = true := hw _ (List.mem_of_getElem? (i := 25) rfl)
theorem w26 {Z : State} {a0 : Array Value} (hw : ∀ d ∈ tables_1, d.before a0 Z = true) : (Jvm.Cond.static ({ cls := "java/util/Objects", name := "requireNonNull", desc := "(Ljava/lang/Object;Ljava/lang/String;)Ljava/lang/Object;" } : Jvm.MethodName)).before a0 Z = true := hw _ (List.mem_of_getElem? (i := 26) rfl)
theorem w27 {Z : State} {a0 : Array Value} (hw : ∀ d ∈ tables_1, d.before a0 Z = true) : (Jvm.Cond.initialized "java/util/Objects").before a0 Z = true := hw _ (List.mem_of_getElem? (i := 27) rfl)
theorem w28 {Z : State} {a0 : Array Value} (hw : ∀ d ∈ tables_1, d.before a0 Z = true) : (Jvm.Cond.code ({ cls := "java/util/Objects", name := "requireNonNull", desc := "(Ljava/lang/Object;Ljava/lang/String;)Ljava/lang/Object;" } : Jvm.MethodName) jdk_31_method_11_code (2 : Nat) (Option.some (Jvm.ClassFile.FieldType.object "java/lang/Object"))).before a0 Z = true := hw _ (List.mem_of_getElem? (i := 28) rfl)
theorem w29 {Z : State} {a0 : Array Value} (hw : ∀ d ∈ tables_1, d.before a0 Z = true) : (Jvm.Cond.classLink "com/example/bare_triage/baretriage/snapshot/ActivityInfo" (15 : Nat) "com/example/bare_triage/baretriage/snapshot/ActivityState").before a0 Z = true := hw _ (List.mem_of_getElem? (i := 29) rfl)
theorem w30 {Z : State} {a0 : Array Value} (hw : ∀ d ∈ tables_1, d.before a0 Z = true) : (Jvm.Cond.castable "com/example/bare_triage/baretriage/snapshot/ActivityState" "com/example/bare_triage/baretriage/snapshot/ActivityState").before a0 Z = true := hw _ (List.mem_of_getElem? (i := 30) rfl)
theorem w31 {Z : State} {a0 : Array Value} (hw : ∀ d ∈ tables_1, d.before a0 Z = true) : (Jvm.Cond.fieldLink "com/example/bare_triage/baretriage/snapshot/ActivityInfo" (17 : Nat) "com/example/bare_triage/baretriage/snapshot/ActivityInfo" "state" "Lcom/example/bare_triage/baretriage/snapshot/ActivityState;").before a0 Z = true := hw _ (List.mem_of_getElem? (i := 31) rfl)
theorem w32 {Z : State} {a0 : Array Value} (hw : ∀ d ∈ tables_1, d.before a0 Z = true) : (Jvm.Cond.laysFinal "com/example/bare_triage/baretriage/snapshot/ActivityInfo" "com/example/bare_triage/baretriage/snapshot/ActivityInfo" "state" "Lcom/example/bare_triage/baretriage/snapshot/ActivityState;").before a0 Z = true := hw _ (List.mem_of_getElem? (i := 32) rfl)
theorem w33 {Z : State} {a0 : Array Value} (hw : ∀ d ∈ tables_1, d.before a0 Z = true) : (Jvm.Cond.fieldLink "com/example/bare_triage/baretriage/snapshot/ActivityInfo" (22 : Nat) "com/example/bare_triage/baretriage/snapshot/ActivityInfo" "finishing" "Z").before a0 Z = true := hw _ (List.mem_of_getElem? (i := 33) rfl)
theorem w34 {Z : State} {a0 : Array Value} (hw : ∀ d ∈ tables_1, d.before a0 Z = true) : (Jvm.Cond.laysFinal "com/example/bare_triage/baretriage/snapshot/ActivityInfo" "com/example/bare_triage/baretriage/snapshot/ActivityInfo" "finishing" "Z").before a0 Z = true := hw _ (List.mem_of_getElem? (i := 34) rfl)
theorem w35 {Z : State} {a0 : Array Value} (hw : ∀ d ∈ tables_1, d.before a0 Z = true) : (Jvm.Cond.fieldLink "com/example/bare_triage/baretriage/snapshot/ActivityInfo" (26 : Nat) "com/example/bare_triage/baretriage/snapshot/ActivityInfo" "layerRank" "I").before a0 Z = true := hw _ (List.mem_of_getElem? (i := 35) rfl)
theorem w36 {Z : State} {a0 : Array Value} (hw : ∀ d ∈ tables_1, d.before a0 Z = true) : (Jvm.Cond.laysFinal "com/example/bare_triage/baretriage/snapshot/ActivityInfo" "com/example/bare_triage/baretriage/snapshot/ActivityInfo" "layerRank" "I").before a0 Z = true := hw _ (List.mem_of_getElem? (i := 36) rfl)
theorem w37 {Z : State} {a0 : Array Value} (hw : ∀ d ∈ tables_1, d.before a0 Z = true) : (Jvm.Cond.fieldLink "com/example/bare_triage/baretriage/snapshot/ActivityInfoEqualsPinLaw" (19 : Nat) "com/example/bare_triage/baretriage/snapshot/ActivityState" "STOPPING" "Lcom/example/bare_triage/baretriage/snapshot/ActivityState;").before a0 Z = true := hw _ (List.mem_of_getElem? (i := 37) rfl)
theorem w38 {Z : State} {a0 : Array Value} (hw : ∀ d ∈ tables_1, d.before a0 Z = true) : (Jvm.Cond.laysStatic "com/example/bare_triage/baretriage/snapshot/ActivityState" "STOPPING" "Lcom/example/bare_triage/baretriage/snapshot/ActivityState;").before a0 Z = true := hw _ (List.mem_of_getElem? (i := 38) rfl)
theorem w39 {Z : State} {a0 : Array Value} (hw : ∀ d ∈ tables_1, d.before a0 Z = true) : (Jvm.Cond.methodLink "com/example/bare_triage/baretriage/snapshot/ActivityInfoEqualsPinLaw" (37 : Nat) ({ cls := "com/example/bare_triage/baretriage/snapshot/ActivityInfo", name := "equals", desc := "(Ljava/lang/Object;)Z" } : Jvm.MethodName)).before a0 Z = true := hw _ (List.mem_of_getElem? (i := 39) rfl)
theorem w40 {Z : State} {a0 : Array Value} (hw : ∀ d ∈ tables_1, d.before a0 Z = true) : (Jvm.Cond.declares ({ cls := "com/example/bare_triage/baretriage/snapshot/ActivityInfo", name := "equals", desc := "(Ljava/lang/Object;)Z" } : Jvm.MethodName)).before a0 Z = true := hw _ (List.mem_of_getElem? (i := 40) rfl)
theorem w41 {Z : State} {a0 : Array Value} (hw : ∀ d ∈ tables_1, d.before a0 Z = true) : (Jvm.Cond.instanceMethod ({ cls := "com/example/bare_triage/baretriage/snapshot/ActivityInfo", name := "equals", desc := "(Ljava/lang/Object;)Z" } : Jvm.MethodName)).before a0 Z = true := hw _ (List.mem_of_getElem? (i := 41) rfl)
theorem w42 {Z : State} {a0 : Array Value} (hw : ∀ d ∈ tables_1, d.before a0 Z = true) : (Jvm.Cond.selects "com/example/bare_triage/baretriage/snapshot/ActivityInfo" ({ cls := "com/example/bare_triage/baretriage/snapshot/ActivityInfo", name := "equals", desc := "(Ljava/lang/Object;)Z" } : Jvm.MethodName) ({ cls := "com/example/bare_triage/baretriage/snapshot/ActivityInfo", name := "equals", desc := "(Ljava/lang/Object;)Z" } : Jvm.MethodName)).before a0 Z = true := hw _ (List.mem_of_getElem? (i := 42) rfl)
theorem w43 {Z : State} {a0 : Array Value} (hw : ∀ d ∈ tables_1, d.before a0 Z = true) : (Jvm.Cond.code ({ cls := "com/example/bare_triage/baretriage/snapshot/ActivityInfo", name := "equals", desc := "(Ljava/lang/Object;)Z" } : Jvm.MethodName) prog_31_method_5_code (3 : Nat) (Option.some Jvm.ClassFile.FieldType.boolean)).before a0 Z = true := hw _ (List.mem_of_getElem? (i := 43) rfl)
theorem w44 {Z : State} {a0 : Array Value} (hw : ∀ d ∈ tables_1, d.before a0 Z = true) : (Jvm.Cond.classLink "com/example/bare_triage/baretriage/snapshot/ActivityInfo" (18 : Nat) "com/example/bare_triage/baretriage/snapshot/ActivityInfo").before a0 Z = true := hw _ (List.mem_of_getElem? (i := 44) rfl)
theorem w45 {Z : State} {a0 : Array Value} (hw : ∀ d ∈ tables_1, d.before a0 Z = true) : (Jvm.Cond.castable "com/example/bare_triage/baretriage/snapshot/ActivityInfo" "com/example/bare_triage/baretriage/snapshot/ActivityInfo").before a0 Z = true := hw _ (List.mem_of_getElem? (i := 45) rfl)
theorem w46 {Z : State} {a0 : Array Value} (hw : ∀ d ∈ tables_1, d.before a0 Z = true) : (Jvm.Cond.fieldLink "com/example/bare_triage/baretriage/snapshot/ActivityInfoEqualsPinLaw" (22 : Nat) "com/example/bare_triage/baretriage/snapshot/ActivityState" "STOPPED" "Lcom/example/bare_triage/baretriage/snapshot/ActivityState;").before a0 Z = true := hw _ (List.mem_of_getElem? (i := 46) rfl)
theorem w47 {Z : State} {a0 : Array Value} (hw : ∀ d ∈ tables_1, d.before a0 Z = true) : (Jvm.Cond.laysStatic "com/example/bare_triage/baretriage/snapshot/ActivityState" "STOPPED" "Lcom/example/bare_triage/baretriage/snapshot/ActivityState;").before a0 Z = true := hw _ (List.mem_of_getElem? (i := 47) rfl)
theorem w48 {Z : State} {a0 : Array Value} (hw : ∀ d ∈ tables_1, d.before a0 Z = true) : (Jvm.Cond.fieldLink "com/example/bare_triage/baretriage/snapshot/ActivityInfoEqualsPinLaw" (16 : Nat) "com/example/bare_triage/baretriage/snapshot/ActivityState" "PAUSED" "Lcom/example/bare_triage/baretriage/snapshot/ActivityState;").before a0 Z = true := hw _ (List.mem_of_getElem? (i := 48) rfl)
theorem w49 {Z : State} {a0 : Array Value} (hw : ∀ d ∈ tables_1, d.before a0 Z = true) : (Jvm.Cond.laysStatic "com/example/bare_triage/baretriage/snapshot/ActivityState" "PAUSED" "Lcom/example/bare_triage/baretriage/snapshot/ActivityState;").before a0 Z = true := hw _ (List.mem_of_getElem? (i := 49) rfl)
theorem w50 {Z : State} {a0 : Array Value} (hw : ∀ d ∈ tables_1, d.before a0 Z = true) : (Jvm.Cond.fieldLink "com/example/bare_triage/baretriage/snapshot/ActivityInfoEqualsPinLaw" (13 : Nat) "com/example/bare_triage/baretriage/snapshot/ActivityState" "PAUSING" "Lcom/example/bare_triage/baretriage/snapshot/ActivityState;").before a0 Z = true := hw _ (List.mem_of_getElem? (i := 50) rfl)
theorem w51 {Z : State} {a0 : Array Value} (hw : ∀ d ∈ tables_1, d.before a0 Z = true) : (Jvm.Cond.laysStatic "com/example/bare_triage/baretriage/snapshot/ActivityState" "PAUSING" "Lcom/example/bare_triage/baretriage/snapshot/ActivityState;").before a0 Z = true := hw _ (List.mem_of_getElem? (i := 51) rfl)
theorem w52 {Z : State} {a0 : Array Value} (hw : ∀ d ∈ tables_1, d.before a0 Z = true) : (Jvm.Cond.methodLink "com/example/bare_triage/baretriage/snapshot/ActivityInfoEqualsPinLaw" (41 : Nat) ({ cls := "java/lang/Integer", name := "valueOf", desc := "(I)Ljava/lang/Integer;" } : Jvm.MethodName)).before a0 Z = true := hw _ (List.mem_of_getElem? (i := 52) rfl)
theorem w53 {Z : State} {a0 : Array Value} (hw : ∀ d ∈ tables_1, d.before a0 Z = true) : (Jvm.Cond.static ({ cls := "java/lang/Integer", name := "valueOf", desc := "(I)Ljava/lang/Integer;" } : Jvm.MethodName)).before a0 Z = true := hw _ (List.mem_of_getElem? (i := 53) rfl)
theorem w54 {Z : State} {a0 : Array Value} (hw : ∀ d ∈ tables_1, d.before a0 Z = true) : (Jvm.Cond.initialized "java/lang/Integer").before a0 Z = true := hw _ (List.mem_of_getElem? (i := 54) rfl)
theorem w55 {Z : State} {a0 : Array Value} (hw : ∀ d ∈ tables_1, d.before a0 Z = true) : (Jvm.Cond.code ({ cls := "java/lang/Integer", name := "valueOf", desc := "(I)Ljava/lang/Integer;" } : Jvm.MethodName) jdk_33_method_22_code (1 : Nat) (Option.some (Jvm.ClassFile.FieldType.object "java/lang/Integer"))).before a0 Z = true := hw _ (List.mem_of_getElem? (i := 55) rfl)
theorem w56 {Z : State} {a0 : Array Value} (hw : ∀ d ∈ tables_1, d.before a0 Z = true) : (Jvm.Cond.fieldLink "java/lang/Integer" (191 : Nat) "java/lang/Integer$IntegerCache" "high" "I").before a0 Z = true := hw _ (List.mem_of_getElem? (i := 56) rfl)
theorem w57 {Z : State} {a0 : Array Value} (hw : ∀ d ∈ tables_1, d.before a0 Z = true) : (Jvm.Cond.initialized "java/lang/Integer$IntegerCache").before a0 Z = true := hw _ (List.mem_of_getElem? (i := 57) rfl)
theorem w58 {Z : State} {a0 : Array Value} (hw : ∀ d ∈ tables_1, d.before a0 Z = true) : (Jvm.Cond.fieldLink "java/lang/Integer" (195 : Nat) "java/lang/Integer$IntegerCache" "cache" "[Ljava/lang/Integer;").before a0 Z = true := hw _ (List.mem_of_getElem? (i := 58) rfl)
theorem w59 {Z : State} {a0 : Array Value} (hw : ∀ d ∈ tables_1, d.before a0 Z = true) : (Jvm.Cond.superclass "java/lang/Integer" "java/lang/Number").before a0 Z = true := hw _ (List.mem_of_getElem? (i := 59) rfl)
theorem w60 {Z : State} {a0 : Array Value} (hw : ∀ d ∈ tables_1, d.before a0 Z = true) : (Jvm.Cond.superclass "java/lang/Number" "java/lang/Object").before a0 Z = true := hw _ (List.mem_of_getElem? (i := 60) rfl)
theorem w61 {Z : State} {a0 : Array Value} (hw : ∀ d ∈ tables_1, d.before a0 Z = true) : (Jvm.Cond.noSuperclass "java/lang/Object").before a0 Z = true := hw _ (List.mem_of_getElem? (i := 61) rfl)
theorem w62 {Z : State} {a0 : Array Value} (hw : ∀ d ∈ tables_1, d.before a0 Z = true) : (Jvm.Cond.classLink "java/lang/Integer" (1 : Nat) "java/lang/Integer").before a0 Z = true := hw _ (List.mem_of_getElem? (i := 62) rfl)
theorem w63 {Z : State} {a0 : Array Value} (hw : ∀ d ∈ tables_1, d.before a0 Z = true) : (Jvm.Cond.instantiable "java/lang/Integer" (1 : Nat)).before a0 Z = true := hw _ (List.mem_of_getElem? (i := 63) rfl)
theorem w64 {Z : State} {a0 : Array Value} (hw : ∀ d ∈ tables_1, d.before a0 Z = true) : (Jvm.Cond.methodLink "java/lang/Integer" (199 : Nat) ({ cls := "java/lang/Integer", name := "<init>", desc := "(I)V" } : Jvm.MethodName)).before a0 Z = true := hw _ (List.mem_of_getElem? (i := 64) rfl)
theorem w65 {Z : State} {a0 : Array Value} (hw : ∀ d ∈ tables_1, d.before a0 Z = true) : (Jvm.Cond.instanceMethod ({ cls := "java/lang/Integer", name := "<init>", desc := "(I)V" } : Jvm.MethodName)).before a0 Z = true := hw _ (List.mem_of_getElem? (i := 65) rfl)
theorem w66 {Z : State} {a0 : Array Value} (hw : ∀ d ∈ tables_1, d.before a0 Z = true) : (Jvm.Cond.castable "java/lang/Integer" "java/lang/Integer").before a0 Z = true := hw _ (List.mem_of_getElem? (i := 66) rfl)
theorem w67 {Z : State} {a0 : Array Value} (hw : ∀ d ∈ tables_1, d.before a0 Z = true) : (Jvm.Cond.code ({ cls := "java/lang/Integer", name := "<init>", desc := "(I)V" } : Jvm.MethodName) jdk_33_method_23_code (2 : Nat) (Option.none : Option Jvm.ClassFile.FieldType)).before a0 Z = true := hw _ (List.mem_of_getElem? (i := 67) rfl)
theorem w68 {Z : State} {a0 : Array Value} (hw : ∀ d ∈ tables_1, d.before a0 Z = true) : (Jvm.Cond.methodLink "java/lang/Integer" (202 : Nat) ({ cls := "java/lang/Number", name := "<init>", desc := "()V" } : Jvm.MethodName)).before a0 Z = true := hw _ (List.mem_of_getElem? (i := 68) rfl)
theorem w69 {Z : State} {a0 : Array Value} (hw : ∀ d ∈ tables_1, d.before a0 Z = true) : (Jvm.Cond.instanceMethod ({ cls := "java/lang/Number", name := "<init>", desc := "()V" } : Jvm.MethodName)).before a0 Z = true := hw _ (List.mem_of_getElem? (i := 69) rfl)
theorem w70 {Z : State} {a0 : Array Value} (hw : ∀ d ∈ tables_1, d.before a0 Z = true) : (Jvm.Cond.declares ({ cls := "java/lang/Number", name := "<init>", desc := "()V" } : Jvm.MethodName)).before a0 Z = true := hw _ (List.mem_of_getElem? (i := 70) rfl)
theorem w71 {Z : State} {a0 : Array Value} (hw : ∀ d ∈ tables_1, d.before a0 Z = true) : (Jvm.Cond.castable "java/lang/Integer" "java/lang/Number").before a0 Z = true := hw _ (List.mem_of_getElem? (i := 71) rfl)
theorem w72 {Z : State} {a0 : Array Value} (hw : ∀ d ∈ tables_1, d.before a0 Z = true) : (Jvm.Cond.initialized "java/lang/Number").before a0 Z = true := hw _ (List.mem_of_getElem? (i := 72) rfl)
theorem w73 {Z : State} {a0 : Array Value} (hw : ∀ d ∈ tables_1, d.before a0 Z = true) : (Jvm.Cond.code ({ cls := "java/lang/Number", name := "<init>", desc := "()V" } : Jvm.MethodName) jdk_18_method_1_code (1 : Nat) (Option.none : Option Jvm.ClassFile.FieldType)).before a0 Z = true := hw _ (List.mem_of_getElem? (i := 73) rfl)
theorem w74 {Z : State} {a0 : Array Value} (hw : ∀ d ∈ tables_1, d.before a0 Z = true) : (Jvm.Cond.methodLink "java/lang/Number" (1 : Nat) ({ cls := "java/lang/Object", name := "<init>", desc := "()V" } : Jvm.MethodName)).before a0 Z = true := hw _ (List.mem_of_getElem? (i := 74) rfl)
theorem w75 {Z : State} {a0 : Array Value} (hw : ∀ d ∈ tables_1, d.before a0 Z = true) : (Jvm.Cond.fieldLink "java/lang/Integer" (205 : Nat) "java/lang/Integer" "value" "I").before a0 Z = true := hw _ (List.mem_of_getElem? (i := 75) rfl)
theorem w76 {Z : State} {a0 : Array Value} (hw : ∀ d ∈ tables_1, d.before a0 Z = true) : (Jvm.Cond.laysFinal "java/lang/Integer" "java/lang/Integer" "value" "I").before a0 Z = true := hw _ (List.mem_of_getElem? (i := 76) rfl)
theorem own_wS {Z : State} {a0 : Array Value} (hw : ∀ d ∈ tables_1, d.before a0 Z = true) : ∀ a ∈ Bundle.stringAtoms, a.before a0 Z = true := by
  intro a ha
  simp only [Bundle.stringAtoms, List.mem_cons, List.not_mem_nil, or_false] at ha
  rcases ha with rfl | rfl | rfl | rfl | rfl | rfl | rfl
  · exact (w18 hw)
  · exact (w19 hw)
  · exact (w20 hw)
  · exact (w21 hw)
  · exact (w22 hw)
  · exact (w23 hw)
  · exact (w24 hw)
def own_st (s0 s1 s2 s3 s4 : Addr) (k : Int32) : Addr := if k = 0 then s0 else if k = 1 then s1 else if k = 2 then s2 else if k = 3 then s3 else s4
def own_eq (q1 : Addr) (q2 q3 : Int32) (r1 : Addr) (r2 r3 : Int32) : Int32 := if q1 = r1 ∧ q2 = r2 ∧ q3 = r3 then 1 else 0
theorem own_sym (q1 : Addr) (q2 q3 : Int32) (r1 : Addr) (r2 r3 : Int32) : own_eq q1 q2 q3 r1 r2 r3 = own_eq r1 r2 r3 q1 q2 q3 := by
  simp only [own_eq, eq_comm]
theorem own_r5 (a : Int32) : 0 ≤ ((a &&& 2147483647) % 5).toInt ∧ ((a &&& 2147483647) % 5).toInt < 5 := by
  have h := (n_and a 2147483647 (by decide)).1
  rw [n_rem _ 5 5 (by decide) rfl h]; omega
theorem own_bool {A : Prop} [Decidable A] {b : Int32} (e : b = if A then (1 : Int32) else 0) : nar .boolean b = b := by
  by_cases a : A
  · rw [if_pos a] at e; rw [e]; rfl
  · rw [if_neg a] at e; rw [e]; rfl
theorem own_inj {s0 s1 s2 s3 s4 : Addr} (d01 : s0 ≠ s1) (d02 : s0 ≠ s2) (d03 : s0 ≠ s3) (d04 : s0 ≠ s4) (d12 : s1 ≠ s2) (d13 : s1 ≠ s3) (d14 : s1 ≠ s4) (d23 : s2 ≠ s3) (d24 : s2 ≠ s4) (d34 : s3 ≠ s4) (i j : Int32) (hi : 0 ≤ i.toInt ∧ i.toInt < 5) (hj : 0 ≤ j.toInt ∧ j.toInt < 5) (h : own_st s0 s1 s2 s3 s4 i = own_st s0 s1 s2 s3 s4 j) : i = j := by
  obtain ⟨⟨i, hi'⟩, rfl⟩ := n_nat i 5 hi.1 hi.2
  obtain ⟨⟨j, hj'⟩, rfl⟩ := n_nat j 5 hj.1 hj.2
  have c : ∀ i, i < 5 → i = 0 ∨ i = 1 ∨ i = 2 ∨ i = 3 ∨ i = 4 := by omega
  rcases c i hi' with rfl | rfl | rfl | rfl | rfl <;> rcases c j hj' with rfl | rfl | rfl | rfl | rfl <;> first | rfl | (exfalso; simp [own_st] at h; first | exact d01 h | exact d01 h.symm | exact d02 h | exact d02 h.symm | exact d03 h | exact d03 h.symm | exact d04 h | exact d04 h.symm | exact d12 h | exact d12 h.symm | exact d13 h | exact d13 h.symm | exact d14 h | exact d14 h.symm | exact d23 h | exact d23 h.symm | exact d24 h | exact d24 h.symm | exact d34 h | exact d34 h.symm)
theorem own_law {s0 s1 s2 s3 s4 : Addr} {i j b c r t : Int32} {A A' : Prop} [Decidable A] [Decidable A'] (HD : ∀ i j : Int32, (0 ≤ i.toInt ∧ i.toInt < 5) → (0 ≤ j.toInt ∧ j.toInt < 5) → own_st s0 s1 s2 s3 s4 i = own_st s0 s1 s2 s3 s4 j → i = j) (hi : 0 ≤ i.toInt ∧ i.toInt < 5) (hj : 0 ≤ j.toInt ∧ j.toInt < 5) (hb : b = if A then (1 : Int32) else 0) (hc : c = if A' then (1 : Int32) else 0) :
    own_eq (own_st s0 s1 s2 s3 s4 i) (nar .boolean b) r (own_st s0 s1 s2 s3 s4 j) (nar .boolean c) t = if i = j ∧ b = c ∧ r = t then 1 else 0 := by
  rw [own_bool hb, own_bool hc, own_eq]
  have q : own_st s0 s1 s2 s3 s4 i = own_st s0 s1 s2 s3 s4 j ↔ i = j := ⟨HD i j hi hj, fun e => by rw [e]⟩
  by_cases h1 : i = j
  · subst h1; simp
  · have h2 := fun e => h1 (q.mp e)
    rw [if_neg (fun e => h2 e.1), if_neg (fun e => h1 e.1)]
theorem d8_0 : decode jdk_18_method_1_code 0 = .ok (.aload_n 0, 1) := by decide +kernel
theorem d8_1 : decode jdk_18_method_1_code 1 = .ok (.invokespecial 1, 3) := by decide +kernel
theorem d8_4 : decode jdk_18_method_1_code 4 = .ok (.return_, 1) := by decide +kernel
theorem pn8 : plainFor (⟨"java/lang/Number", "<init>", "()V"⟩ : MethodName) = true := plainFor_of_name (by first | (simp [plainName, overriddenIn]; done) | decide +kernel)
theorem pd8 : parseMethodDescriptor "()V" = some ⟨[], none⟩ := by decide +kernel
set_option maxRecDepth 65536 in
set_option maxHeartbeats 40000000 in
theorem rm8 (l : Launch) (Z : State) (a0 : Array Value) (hw : ∀ d ∈ tables_1, d.before a0 Z = true) (a1 : Addr)  (h0 : Heap) (n0 : Nat) (Z0 : n0 ≤ h0.size)  :
    oC l Z n0 (fun _ => True) (fun _ => True) (⟨"java/lang/Number", "<init>", "()V"⟩ : MethodName) jdk_18_method_1_code 1 none ({ frames := 1, cells := 0, slots := 0, locals := 12 } : Room) 0 0 #[(.ref a1)] h0 (fun v h => v = none ∧ h0 = h) := by
  refine oC.of (b := false) (L := #[.val (.ref a1)]) pn8 Z0 (fun q => (nomatch q)) (fun m => by first | (simp [entryFrame, mkF, argsToLocals, Value.category]; done) | rfl) ?_
  intro p e s m below meth c T H
  refine o_aloadN H rfl rfl d8_0 rfl ?_
  refine o_initO H (w74 hw) (w15 hw) (w16 hw) d8_1 rfl rfl (by decide) (Nat.le_of_ble_eq_true rfl) ?_
  intro T1 H2
  exact o_return H2 rfl d8_4 oSt.tt (fun _ q => q) (by decide) (by decide) ⟨rfl, rfl⟩
theorem d7_0 : decode jdk_33_method_23_code 0 = .ok (.aload_n 0, 1) := by decide +kernel
theorem d7_1 : decode jdk_33_method_23_code 1 = .ok (.invokespecial 202, 3) := by decide +kernel
theorem d7_4 : decode jdk_33_method_23_code 4 = .ok (.aload_n 0, 1) := by decide +kernel
theorem d7_5 : decode jdk_33_method_23_code 5 = .ok (.iload_n 1, 1) := by decide +kernel
theorem d7_6 : decode jdk_33_method_23_code 6 = .ok (.putfield 205, 3) := by decide +kernel
theorem d7_9 : decode jdk_33_method_23_code 9 = .ok (.return_, 1) := by decide +kernel
theorem pn7 : plainFor (⟨"java/lang/Integer", "<init>", "(I)V"⟩ : MethodName) = true := plainFor_of_name (by first | (simp [plainName, overriddenIn]; done) | decide +kernel)
theorem pd7 : parseMethodDescriptor "(I)V" = some ⟨[.int], none⟩ := by decide +kernel
set_option maxRecDepth 65536 in
set_option maxHeartbeats 40000000 in
theorem rm7 (l : Launch) (Z : State) (a0 : Array Value) (hw : ∀ d ∈ tables_1, d.before a0 Z = true) (a1 : Addr) (p1 : Int32)  (h0 : Heap) (n0 : Nat) (Z0 : n0 ≤ h0.size) (E_a1 : Exa Z h0 a1 "java/lang/Integer") (g_a1 : n0 ≤ a1) (F_value_a1 : Fld Z h0 a1 "java/lang/Integer" "value" "I" (.int (0 : Int32)))  :
    oC l Z n0 (fun _ => True) (fun _ => True) (⟨"java/lang/Integer", "<init>", "(I)V"⟩ : MethodName) jdk_33_method_23_code 2 none ({ frames := 2, cells := 0, slots := 0, locals := 24 } : Room) 0 0 #[(.ref a1), (.int p1)] h0 (fun v h => v = none ∧ Keep h0 h [a1] ∧ Fld Z h a1 "java/lang/Integer" "value" "I" (.int p1)) := by
  refine oC.of (b := false) (L := #[.val (.ref a1), .val (.int p1)]) pn7 Z0 (fun q => (nomatch q)) (fun m => by first | (simp [entryFrame, mkF, argsToLocals, Value.category]; done) | rfl) ?_
  intro p e s m below meth c T H
  refine o_aloadN H rfl rfl d7_0 rfl ?_
  refine o_special H [] [] (rm8 l Z a0 hw a1 h0 n0 H.le) rfl (w68 hw) (w69 hw) (w72 hw) (w73 hw) (by decide) (lenOf pd8 rfl) rfl rfl (by decide) (Nat.le_of_ble_eq_true rfl) (by decide) (by decide) d7_1 rfl (fun _ q => q) oSt.tt ?_
  intro T1 v1 h1 H1 q1
  obtain ⟨rfl, rfl⟩ := q1
  show oG p e below s n0 _ _ _ _ (T1.setTop (mkF m 4 #[.val (.ref a1), .val (.int p1)] []))
  refine o_aloadN H1 rfl rfl d7_4 rfl ?_
  refine o_iloadN H1 rfl d7_5 rfl ?_
  refine o_putF H1 (host := "") (Or.inl (w75 hw)) F_value_a1 E_a1 (Or.inr ⟨(w76 hw), rfl, rfl⟩) (w63 hw) (ty := .int) (by decide) rfl rfl g_a1 d7_6 rfl ?_
  intro T2 h2 H2 W2
  have k3 := (Keep.refl h0 [a1]).wr W2 (Or.inl (by simp))
  have f4 := E_a1.wr W2
  have f5 := F_value_a1.same W2
  exact o_return H2 rfl d7_9 oSt.tt (fun _ q => q) (by decide) (by decide) ⟨rfl, k3, f5⟩
theorem d6_0 : decode jdk_33_method_22_code 0 = .ok (.iload_n 0, 1) := by decide +kernel
theorem d6_1 : decode jdk_33_method_22_code 1 = .ok (.bipush (-128), 2) := by decide +kernel
theorem d6_3 : decode jdk_33_method_22_code 3 = .ok (.if_icmp .lt 20, 3) := by decide +kernel
theorem d6_6 : decode jdk_33_method_22_code 6 = .ok (.iload_n 0, 1) := by decide +kernel
theorem d6_7 : decode jdk_33_method_22_code 7 = .ok (.getstatic 191, 3) := by decide +kernel
theorem d6_10 : decode jdk_33_method_22_code 10 = .ok (.if_icmp .gt 13, 3) := by decide +kernel
theorem d6_13 : decode jdk_33_method_22_code 13 = .ok (.getstatic 195, 3) := by decide +kernel
theorem d6_16 : decode jdk_33_method_22_code 16 = .ok (.iload_n 0, 1) := by decide +kernel
theorem d6_17 : decode jdk_33_method_22_code 17 = .ok (.sipush 128, 3) := by decide +kernel
theorem d6_20 : decode jdk_33_method_22_code 20 = .ok (.iadd, 1) := by decide +kernel
theorem d6_21 : decode jdk_33_method_22_code 21 = .ok (.aaload, 1) := by decide +kernel
theorem d6_22 : decode jdk_33_method_22_code 22 = .ok (.areturn, 1) := by decide +kernel
theorem d6_23 : decode jdk_33_method_22_code 23 = .ok (.new 1, 3) := by decide +kernel
theorem d6_26 : decode jdk_33_method_22_code 26 = .ok (.dup, 1) := by decide +kernel
theorem d6_27 : decode jdk_33_method_22_code 27 = .ok (.iload_n 0, 1) := by decide +kernel
theorem d6_28 : decode jdk_33_method_22_code 28 = .ok (.invokespecial 199, 3) := by decide +kernel
theorem d6_31 : decode jdk_33_method_22_code 31 = .ok (.areturn, 1) := by decide +kernel
theorem pn6 : plainFor (⟨"java/lang/Integer", "valueOf", "(I)Ljava/lang/Integer;"⟩ : MethodName) = true := plainFor_of_name (by first | (simp [plainName, overriddenIn]; done) | decide +kernel)
theorem pd6 : parseMethodDescriptor "(I)Ljava/lang/Integer;" = some ⟨[.int], some (.object "java/lang/Integer")⟩ := by decide +kernel
set_option maxRecDepth 65536 in
set_option maxHeartbeats 40000000 in
theorem rm6 (l : Launch) (Z : State) (a0 : Array Value) (hw : ∀ d ∈ tables_1, d.before a0 Z = true) (p1 : Int32) (ca : Addr) (cl : Cell) (h0 : Heap) (n0 : Nat) (Z0 : n0 ≤ h0.size) (S_high : Sta Z h0 "java/lang/Integer$IntegerCache" "high" "I" (.int 127)) (S_cache : Sta Z h0 "java/lang/Integer$IntegerCache" "cache" "[Ljava/lang/Integer;" (.ref ca)) (AC : Arr Z Z.heap ca cl (.object "java/lang/Integer")) (BX : ∀ j : Int32, ¬ j < 0 → j < 256 → ¬ (j < 0 ∨ cl.slots.size ≤ j.toNatClampNeg) ∧ ∃ b, cl.slots[j.toNatClampNeg]? = some (.ref b) ∧ Exa Z Z.heap b "java/lang/Integer") (E0 : Ext Z.heap h0) :
    oC l Z n0 (fun _ => True) (fun _ => True) (⟨"java/lang/Integer", "valueOf", "(I)Ljava/lang/Integer;"⟩ : MethodName) jdk_33_method_22_code 1 (some (.object "java/lang/Integer")) ({ frames := 3, cells := 1, slots := 1, locals := 38 } : Room) 1 1 #[(.int p1)] h0 (fun v h => ∃ r, v = some (.ref r) ∧ Keep h0 h [] ∧ Exa Z h r "java/lang/Integer") := by
  refine oC.of (b := false) (L := #[.val (.int p1)]) pn6 Z0 (fun q => (nomatch q)) (fun m => by first | (simp [entryFrame, mkF, argsToLocals, Value.category]; done) | rfl) ?_
  intro p e s m below meth c T H
  refine o_iloadN H rfl d6_0 rfl ?_
  refine o_bipush H (-128 : Int32) rfl d6_1 rfl ?_
  refine o_icmp_lt H d6_3 (pt := 23) (by decide) (by decide) rfl ?_ ?_
  · intro c3_1
    refine o_new H (w62 hw) (w63 hw) (w54 hw) d6_23 rfl (by decide) (by decide) ?_
    intro T2 h2 b2 g2 H2 E2 A2 D2
    have z2 : n0 ≤ b2 := by rw [g2]; exact H.le
    have y2 : h0.size ≤ b2 := by rw [g2]; exact (Keep.refl h0 []).1
    have k3 := (Keep.refl h0 []).ext E2
    have f4 : Fld Z h2 b2 "java/lang/Integer" "value" "I" (.int (0 : Int32)) := D2 (Or.inr (w76 hw)) (ty := .int) (by decide)
    refine o_dup H2 rfl d6_26 rfl ?_
    refine o_iloadN H2 rfl d6_27 rfl ?_
    refine o_special H2 [(.int p1)] [(.ref b2)] (rm7 l Z a0 hw b2 p1 h2 n0 H2.le A2 z2 f4 ) rfl (w64 hw) (w65 hw) (w54 hw) (w67 hw) (by decide) (lenOf pd7 rfl) rfl rfl (by decide) (Nat.le_of_ble_eq_true rfl) (by decide) (by decide) d6_28 rfl (fun _ q => q) oSt.tt ?_
    intro T5 v5 h5 H5 q5
    obtain ⟨rfl, K5, F5_0⟩ := q5
    have k6 := k3.trans K5 (allS (Or.inr y2) all0)
    have f7 := A2.keep K5
    show oG p e below s n0 _ _ _ _ (T5.setTop (mkF m 31 #[.val (.int p1)] [(.ref b2)]))
    exact o_areturn H5 rfl rfl rfl rfl d6_31 oSt.tt (fun _ q => q) (by decide) (by decide) ⟨_, rfl, k6, f7⟩
  · intro c3_1
    refine o_iloadN H rfl d6_6 rfl ?_
    refine o_getS H (host := "") (Or.inl (w56 hw)) S_high d6_7 rfl ?_
    intro T8 H9
    refine o_icmp_gt H9 d6_10 (pt := 23) (by decide) (by decide) rfl ?_ ?_
    · intro c10_10
      refine o_new H9 (w62 hw) (w63 hw) (w54 hw) d6_23 rfl (by decide) (by decide) ?_
      intro T11 h11 b11 g11 H11 E11 A11 D11
      have z11 : n0 ≤ b11 := by rw [g11]; exact H9.le
      have y11 : h0.size ≤ b11 := by rw [g11]; exact (Keep.refl h0 []).1
      have k12 := (Keep.refl h0 []).ext E11
      have f13 : Fld Z h11 b11 "java/lang/Integer" "value" "I" (.int (0 : Int32)) := D11 (Or.inr (w76 hw)) (ty := .int) (by decide)
      refine o_dup H11 rfl d6_26 rfl ?_
      refine o_iloadN H11 rfl d6_27 rfl ?_
      refine o_special H11 [(.int p1)] [(.ref b11)] (rm7 l Z a0 hw b11 p1 h11 n0 H11.le A11 z11 f13 ) rfl (w64 hw) (w65 hw) (w54 hw) (w67 hw) (by decide) (lenOf pd7 rfl) rfl rfl (by decide) (Nat.le_of_ble_eq_true rfl) (by decide) (by decide) d6_28 rfl (fun _ q => q) oSt.tt ?_
      intro T14 v14 h14 H14 q14
      obtain ⟨rfl, K14, F14_0⟩ := q14
      have k15 := k12.trans K14 (allS (Or.inr y11) all0)
      have f16 := A11.keep K14
      show oG p e below s n0 _ _ _ _ (T14.setTop (mkF m 31 #[.val (.int p1)] [(.ref b11)]))
      exact o_areturn H14 rfl rfl rfl rfl d6_31 oSt.tt (fun _ q => q) (by decide) (by decide) ⟨_, rfl, k15, f16⟩
    · intro c10_10
      refine o_getS H9 (host := "") (Or.inl (w58 hw)) S_cache d6_13 rfl ?_
      intro T17 H18
      refine o_iloadN H18 rfl d6_16 rfl ?_
      refine o_sipush H18 (128 : Int32) rfl d6_17 rfl ?_
      refine o_iadd H18 d6_20 rfl ?_
      have hj : (p1 + 128).toInt = p1.toInt + 128 := by
        rw [n_lt] at c3_1 c10_10; have e : (128 : Int32).toInt = 128 := rfl; have e' : (-128 : Int32).toInt = -128 := rfl; have e'' : (127 : Int32).toInt = 127 := rfl
        rw [Int32.toInt_add, e]; apply Int.bmod_eq_of_le <;> omega
      obtain ⟨hin, bx, hb1, hb2⟩ := BX (p1 + 128) (by rw [n_lt] at *; have e0 : (0 : Int32).toInt = 0 := rfl; have e' : (-128 : Int32).toInt = -128 := rfl; omega) (by rw [n_lt] at *; have e0 : (256 : Int32).toInt = 256 := rfl; have e' : (127 : Int32).toInt = 127 := rfl; omega)
      refine o_aaloadC H18 (.ref bx) (AC.ext E0) rfl hin hb1 d6_21 rfl ?_
      exact o_areturn H18 rfl rfl rfl rfl d6_22 oSt.tt (fun _ q => q) (by decide) (by decide) ⟨_, rfl, (Keep.refl h0 []), (hb2.ext E0)⟩
theorem d1_0 : decode method_2_code 0 = .ok (.iload_n 0, 1) := by decide +kernel
theorem d1_1 : decode method_2_code 1 = .ok (.ifCond .ne 7, 3) := by decide +kernel
theorem d1_4 : decode method_2_code 4 = .ok (.getstatic 7, 3) := by decide +kernel
theorem d1_7 : decode method_2_code 7 = .ok (.areturn, 1) := by decide +kernel
theorem d1_8 : decode method_2_code 8 = .ok (.iload_n 0, 1) := by decide +kernel
theorem d1_9 : decode method_2_code 9 = .ok (.iconst 1, 1) := by decide +kernel
theorem d1_10 : decode method_2_code 10 = .ok (.if_icmp .ne 7, 3) := by decide +kernel
theorem d1_13 : decode method_2_code 13 = .ok (.getstatic 13, 3) := by decide +kernel
theorem d1_16 : decode method_2_code 16 = .ok (.areturn, 1) := by decide +kernel
theorem d1_17 : decode method_2_code 17 = .ok (.iload_n 0, 1) := by decide +kernel
theorem d1_18 : decode method_2_code 18 = .ok (.iconst 2, 1) := by decide +kernel
theorem d1_19 : decode method_2_code 19 = .ok (.if_icmp .ne 7, 3) := by decide +kernel
theorem d1_22 : decode method_2_code 22 = .ok (.getstatic 16, 3) := by decide +kernel
theorem d1_25 : decode method_2_code 25 = .ok (.areturn, 1) := by decide +kernel
theorem d1_26 : decode method_2_code 26 = .ok (.iload_n 0, 1) := by decide +kernel
theorem d1_27 : decode method_2_code 27 = .ok (.iconst 3, 1) := by decide +kernel
theorem d1_28 : decode method_2_code 28 = .ok (.if_icmp .ne 7, 3) := by decide +kernel
theorem d1_31 : decode method_2_code 31 = .ok (.getstatic 19, 3) := by decide +kernel
theorem d1_34 : decode method_2_code 34 = .ok (.areturn, 1) := by decide +kernel
theorem d1_35 : decode method_2_code 35 = .ok (.getstatic 22, 3) := by decide +kernel
theorem d1_38 : decode method_2_code 38 = .ok (.areturn, 1) := by decide +kernel
theorem pn1 : plainFor (⟨"com/example/bare_triage/baretriage/snapshot/ActivityInfoEqualsPinLaw", "state", "(I)Lcom/example/bare_triage/baretriage/snapshot/ActivityState;"⟩ : MethodName) = true := plainFor_of_name (by first | (simp [plainName, overriddenIn]; done) | decide +kernel)
theorem pd1 : parseMethodDescriptor "(I)Lcom/example/bare_triage/baretriage/snapshot/ActivityState;" = some ⟨[.int], some (.object "com/example/bare_triage/baretriage/snapshot/ActivityState")⟩ := by decide +kernel
set_option maxRecDepth 65536 in
set_option maxHeartbeats 40000000 in
theorem rm1 (l : Launch) (Z : State) (a0 : Array Value) (hw : ∀ d ∈ tables_1, d.before a0 Z = true) (p1 : Int32) (s0 s1 s2 s3 s4 : Addr) (h0 : Heap) (n0 : Nat) (Z0 : n0 ≤ h0.size) (S_0 : Sta Z h0 "com/example/bare_triage/baretriage/snapshot/ActivityState" "VISIBLE" "Lcom/example/bare_triage/baretriage/snapshot/ActivityState;" (.ref s0)) (S_1 : Sta Z h0 "com/example/bare_triage/baretriage/snapshot/ActivityState" "PAUSING" "Lcom/example/bare_triage/baretriage/snapshot/ActivityState;" (.ref s1)) (S_2 : Sta Z h0 "com/example/bare_triage/baretriage/snapshot/ActivityState" "PAUSED" "Lcom/example/bare_triage/baretriage/snapshot/ActivityState;" (.ref s2)) (S_3 : Sta Z h0 "com/example/bare_triage/baretriage/snapshot/ActivityState" "STOPPING" "Lcom/example/bare_triage/baretriage/snapshot/ActivityState;" (.ref s3)) (S_4 : Sta Z h0 "com/example/bare_triage/baretriage/snapshot/ActivityState" "STOPPED" "Lcom/example/bare_triage/baretriage/snapshot/ActivityState;" (.ref s4)) :
    oC l Z n0 (fun _ => True) (fun _ => True) (⟨"com/example/bare_triage/baretriage/snapshot/ActivityInfoEqualsPinLaw", "state", "(I)Lcom/example/bare_triage/baretriage/snapshot/ActivityState;"⟩ : MethodName) method_2_code 1 (some (.object "com/example/bare_triage/baretriage/snapshot/ActivityState")) ({ frames := 0, cells := 0, slots := 0, locals := 0 } : Room) 0 0 #[(.int p1)] h0 (fun v h => v = some (.ref (own_st s0 s1 s2 s3 s4 p1)) ∧ h0 = h) := by
  refine oC.of (b := false) (L := #[.val (.int p1)]) pn1 Z0 (fun q => (nomatch q)) (fun m => by first | (simp [entryFrame, mkF, argsToLocals, Value.category]; done) | rfl) ?_
  intro p e s m below meth c T H
  refine o_iloadN H rfl d1_0 rfl ?_
  refine o_if_ne H d1_1 (pt := 8) (by decide) (by decide) rfl ?_ ?_
  · intro c1_1
    refine o_iloadN H rfl d1_8 rfl ?_
    refine o_iconst H (1 : Int32) rfl d1_9 rfl ?_
    refine o_icmp_ne H d1_10 (pt := 17) (by decide) (by decide) rfl ?_ ?_
    · intro c10_2
      refine o_iloadN H rfl d1_17 rfl ?_
      refine o_iconst H (2 : Int32) rfl d1_18 rfl ?_
      refine o_icmp_ne H d1_19 (pt := 26) (by decide) (by decide) rfl ?_ ?_
      · intro c19_3
        refine o_iloadN H rfl d1_26 rfl ?_
        refine o_iconst H (3 : Int32) rfl d1_27 rfl ?_
        refine o_icmp_ne H d1_28 (pt := 35) (by decide) (by decide) rfl ?_ ?_
        · intro c28_4
          refine o_getS H (host := "") (Or.inl (w46 hw)) S_4 d1_35 rfl ?_
          intro T5 H6
          exact o_areturn H6 rfl rfl rfl rfl d1_38 oSt.tt (fun _ q => q) (by decide) (by decide) ⟨by simp [own_st, c1_1, c10_2, c19_3, c28_4], rfl⟩
        · intro c28_4
          refine o_getS H (host := "") (Or.inl (w37 hw)) S_3 d1_31 rfl ?_
          intro T7 H8
          exact o_areturn H8 rfl rfl rfl rfl d1_34 oSt.tt (fun _ q => q) (by decide) (by decide) ⟨by simp [own_st, c1_1, c10_2, c19_3, c28_4], rfl⟩
      · intro c19_3
        refine o_getS H (host := "") (Or.inl (w48 hw)) S_2 d1_22 rfl ?_
        intro T9 H10
        exact o_areturn H10 rfl rfl rfl rfl d1_25 oSt.tt (fun _ q => q) (by decide) (by decide) ⟨by simp [own_st, c1_1, c10_2, c19_3], rfl⟩
    · intro c10_2
      refine o_getS H (host := "") (Or.inl (w50 hw)) S_1 d1_13 rfl ?_
      intro T11 H12
      exact o_areturn H12 rfl rfl rfl rfl d1_16 oSt.tt (fun _ q => q) (by decide) (by decide) ⟨by simp [own_st, c1_1, c10_2], rfl⟩
  · intro c1_1
    refine o_getS H (host := "") (Or.inl (w8 hw)) S_0 d1_4 rfl ?_
    intro T13 H14
    exact o_areturn H14 rfl rfl rfl rfl d1_7 oSt.tt (fun _ q => q) (by decide) (by decide) ⟨by simp [own_st, c1_1], rfl⟩
theorem d4_0 : decode jdk_31_method_11_code 0 = .ok (.aload_n 0, 1) := by decide +kernel
theorem d4_1 : decode jdk_31_method_11_code 1 = .ok (.ifnonnull 12, 3) := by decide +kernel
theorem d4_13 : decode jdk_31_method_11_code 13 = .ok (.aload_n 0, 1) := by decide +kernel
theorem d4_14 : decode jdk_31_method_11_code 14 = .ok (.areturn, 1) := by decide +kernel
theorem pn4 : plainFor (⟨"java/util/Objects", "requireNonNull", "(Ljava/lang/Object;Ljava/lang/String;)Ljava/lang/Object;"⟩ : MethodName) = true := plainFor_of_name (by first | (simp [plainName, overriddenIn]; done) | decide +kernel)
theorem pd4 : parseMethodDescriptor "(Ljava/lang/Object;Ljava/lang/String;)Ljava/lang/Object;" = some ⟨[(.object "java/lang/Object"), (.object "java/lang/String")], some (.object "java/lang/Object")⟩ := by decide +kernel
set_option maxRecDepth 65536 in
set_option maxHeartbeats 40000000 in
theorem rm4 (l : Launch) (Z : State) (a0 : Array Value) (hw : ∀ d ∈ tables_1, d.before a0 Z = true) (p1 : Addr) (p2 : Addr)  (h0 : Heap) (n0 : Nat) (Z0 : n0 ≤ h0.size)  :
    oC l Z n0 (fun _ => True) (fun _ => True) (⟨"java/util/Objects", "requireNonNull", "(Ljava/lang/Object;Ljava/lang/String;)Ljava/lang/Object;"⟩ : MethodName) jdk_31_method_11_code 2 (some (.object "java/lang/Object")) ({ frames := 0, cells := 0, slots := 0, locals := 0 } : Room) 0 0 #[(.ref p1), (.ref p2)] h0 (fun v h => v = some (.ref p1) ∧ h0 = h) := by
  refine oC.of (b := false) (L := #[.val (.ref p1), .val (.ref p2)]) pn4 Z0 (fun q => (nomatch q)) (fun m => by first | (simp [entryFrame, mkF, argsToLocals, Value.category]; done) | rfl) ?_
  intro p e s m below meth c T H
  refine o_aloadN H rfl rfl d4_0 rfl ?_
  refine o_ifnonnull_t H d4_1 (pt := 13) (by decide) (by decide) ?_
  refine o_aloadN H rfl rfl d4_13 rfl ?_
  exact o_areturn H rfl rfl rfl rfl d4_14 oSt.tt (fun _ q => q) (by decide) (by decide) ⟨rfl, rfl⟩
theorem d2_0 : decode prog_31_method_1_code 0 = .ok (.aload_n 0, 1) := by decide +kernel
theorem d2_1 : decode prog_31_method_1_code 1 = .ok (.invokespecial 1, 3) := by decide +kernel
theorem d2_4 : decode prog_31_method_1_code 4 = .ok (.aload_n 0, 1) := by decide +kernel
theorem d2_5 : decode prog_31_method_1_code 5 = .ok (.aload_n 1, 1) := by decide +kernel
theorem d2_6 : decode prog_31_method_1_code 6 = .ok (.ldc 7, 2) := by decide +kernel
theorem d2_8 : decode prog_31_method_1_code 8 = .ok (.invokestatic 9, 3) := by decide +kernel
theorem d2_11 : decode prog_31_method_1_code 11 = .ok (.checkcast 15, 3) := by decide +kernel
theorem d2_14 : decode prog_31_method_1_code 14 = .ok (.putfield 17, 3) := by decide +kernel
theorem d2_17 : decode prog_31_method_1_code 17 = .ok (.aload_n 0, 1) := by decide +kernel
theorem d2_18 : decode prog_31_method_1_code 18 = .ok (.iload_n 2, 1) := by decide +kernel
theorem d2_19 : decode prog_31_method_1_code 19 = .ok (.putfield 22, 3) := by decide +kernel
theorem d2_22 : decode prog_31_method_1_code 22 = .ok (.aload_n 0, 1) := by decide +kernel
theorem d2_23 : decode prog_31_method_1_code 23 = .ok (.iload_n 3, 1) := by decide +kernel
theorem d2_24 : decode prog_31_method_1_code 24 = .ok (.putfield 26, 3) := by decide +kernel
theorem d2_27 : decode prog_31_method_1_code 27 = .ok (.return_, 1) := by decide +kernel
theorem pn2 : plainFor (⟨"com/example/bare_triage/baretriage/snapshot/ActivityInfo", "<init>", "(Lcom/example/bare_triage/baretriage/snapshot/ActivityState;ZI)V"⟩ : MethodName) = true := plainFor_of_name (by first | (simp [plainName, overriddenIn]; done) | decide +kernel)
theorem pd2 : parseMethodDescriptor "(Lcom/example/bare_triage/baretriage/snapshot/ActivityState;ZI)V" = some ⟨[(.object "com/example/bare_triage/baretriage/snapshot/ActivityState"), .boolean, .int], none⟩ := by decide +kernel
set_option maxRecDepth 65536 in
set_option maxHeartbeats 40000000 in
theorem rm2 (l : Launch) (Z : State) (a0 : Array Value) (hw : ∀ d ∈ tables_1, d.before a0 Z = true) (a1 : Addr) (p1 : Addr) (p2 : Int32) (p3 : Int32)  (h0 : Heap) (n0 : Nat) (Z0 : n0 ≤ h0.size) (E_a1 : Exa Z h0 a1 "com/example/bare_triage/baretriage/snapshot/ActivityInfo") (g_a1 : n0 ≤ a1) (F_state_a1 : Fld Z h0 a1 "com/example/bare_triage/baretriage/snapshot/ActivityInfo" "state" "Lcom/example/bare_triage/baretriage/snapshot/ActivityState;" .null) (F_finishing_a1 : Fld Z h0 a1 "com/example/bare_triage/baretriage/snapshot/ActivityInfo" "finishing" "Z" (.int (0 : Int32))) (F_layerRank_a1 : Fld Z h0 a1 "com/example/bare_triage/baretriage/snapshot/ActivityInfo" "layerRank" "I" (.int (0 : Int32))) (EP : Exa Z h0 p1 "com/example/bare_triage/baretriage/snapshot/ActivityState") :
    oC l Z n0 (fun _ => True) (fun _ => True) (⟨"com/example/bare_triage/baretriage/snapshot/ActivityInfo", "<init>", "(Lcom/example/bare_triage/baretriage/snapshot/ActivityState;ZI)V"⟩ : MethodName) prog_31_method_1_code 4 none ({ frames := 1, cells := 2, slots := 24, locals := 16 } : Room) 2 24 #[(.ref a1), (.ref p1), (.int p2), (.int p3)] h0 (fun v h => v = none ∧ Keep h0 h [a1] ∧ Fld Z h a1 "com/example/bare_triage/baretriage/snapshot/ActivityInfo" "state" "Lcom/example/bare_triage/baretriage/snapshot/ActivityState;" (.ref p1) ∧ Fld Z h a1 "com/example/bare_triage/baretriage/snapshot/ActivityInfo" "finishing" "Z" (.int (nar .boolean p2)) ∧ Fld Z h a1 "com/example/bare_triage/baretriage/snapshot/ActivityInfo" "layerRank" "I" (.int p3)) := by
  refine oC.of (b := false) (L := #[.val (.ref a1), .val (.ref p1), .val (.int p2), .val (.int p3)]) pn2 Z0 (fun q => (nomatch q)) (fun m => by first | (simp [entryFrame, mkF, argsToLocals, Value.category]; done) | rfl) ?_
  intro p e s m below meth c T H
  refine o_aloadN H rfl rfl d2_0 rfl ?_
  refine o_initO H (w14 hw) (w15 hw) (w16 hw) d2_1 rfl rfl (by decide) (Nat.le_of_ble_eq_true rfl) ?_
  intro T1 H2
  refine o_aloadN H2 rfl rfl d2_4 rfl ?_
  refine o_aloadN H2 rfl rfl d2_5 rfl ?_
  refine o_ldcS H2 (n := 20) (w17 hw) (own_wS hw) d2_6 rfl (by decide) (by decide) (by decide) (by decide) ?_
  intro T3 h3 b3 H3 E3
  have k4 := (Keep.refl h0 [a1]).ext E3
  have f5 := E_a1.ext E3
  have f6 := F_state_a1.ext E3
  have f7 := F_finishing_a1.ext E3
  have f8 := F_layerRank_a1.ext E3
  have f9 := EP.ext E3
  refine o_static H3 [(.ref p1), (.ref b3)] [(.ref a1)] (rm4 l Z a0 hw p1 b3 h3 n0 H3.le) (w25 hw) (w26 hw) (w27 hw) (w28 hw) (by decide) (lenOf pd4 rfl) rfl rfl (by decide) (Nat.le_of_ble_eq_true rfl) (by decide) (by decide) d2_8 rfl (fun _ q => q) oSt.tt ?_
  intro T10 v10 h10 H10 q10
  obtain ⟨rfl, rfl⟩ := q10
  show oG p e below s n0 _ _ _ _ (T10.setTop (mkF m 11 #[.val (.ref a1), .val (.ref p1), .val (.int p2), .val (.int p3)] [(.ref p1), (.ref a1)]))
  refine o_castY H10 (w29 hw) (Ins.self f9) d2_11 rfl ?_
  intro T11 H12
  refine o_putF H12 (host := "") (Or.inl (w31 hw)) f6 f5 (Or.inr ⟨(w32 hw), rfl, rfl⟩) (w2 hw) (ty := (.object "com/example/bare_triage/baretriage/snapshot/ActivityState")) (by decide) rfl rfl g_a1 d2_14 rfl ?_
  intro T13 h13 H13 W13
  have k14 := k4.wr W13 (Or.inl (by simp))
  have f15 := f5.wr W13
  have f16 := f6.same W13
  have f17 := f7.other W13 (Or.inr (slot_ne (Or.inr (w34 hw)) (Or.inr (w32 hw)) (by decide) (t := .boolean) (t' := (.object "com/example/bare_triage/baretriage/snapshot/ActivityState")) (by decide) (by decide)))
  have f18 := f8.other W13 (Or.inr (slot_ne (Or.inr (w36 hw)) (Or.inr (w32 hw)) (by decide) (t := .int) (t' := (.object "com/example/bare_triage/baretriage/snapshot/ActivityState")) (by decide) (by decide)))
  have f19 := f9.wr W13
  refine o_aloadN H13 rfl rfl d2_17 rfl ?_
  refine o_iloadN H13 rfl d2_18 rfl ?_
  refine o_putFN H13 (w33 hw) f17 f15 (Or.inr ⟨(w34 hw), rfl, rfl⟩) (w2 hw) (ty := .boolean) (v' := (.int (nar .boolean p2))) (by decide) rfl (fits_nar_bool _) g_a1 d2_19 rfl ?_
  intro T20 h20 H20 W20
  have k21 := k14.wr W20 (Or.inl (by simp))
  have f22 := f15.wr W20
  have f23 := f16.other W20 (Or.inr (slot_ne (Or.inr (w32 hw)) (Or.inr (w34 hw)) (by decide) (t := (.object "com/example/bare_triage/baretriage/snapshot/ActivityState")) (t' := .boolean) (by decide) (by decide)))
  have f24 := f17.same W20
  have f25 := f18.other W20 (Or.inr (slot_ne (Or.inr (w36 hw)) (Or.inr (w34 hw)) (by decide) (t := .int) (t' := .boolean) (by decide) (by decide)))
  have f26 := f19.wr W20
  refine o_aloadN H20 rfl rfl d2_22 rfl ?_
  refine o_iloadN H20 rfl d2_23 rfl ?_
  refine o_putF H20 (host := "") (Or.inl (w35 hw)) f25 f22 (Or.inr ⟨(w36 hw), rfl, rfl⟩) (w2 hw) (ty := .int) (by decide) rfl rfl g_a1 d2_24 rfl ?_
  intro T27 h27 H27 W27
  have k28 := k21.wr W27 (Or.inl (by simp))
  have f29 := f22.wr W27
  have f30 := f23.other W27 (Or.inr (slot_ne (Or.inr (w32 hw)) (Or.inr (w36 hw)) (by decide) (t := (.object "com/example/bare_triage/baretriage/snapshot/ActivityState")) (t' := .int) (by decide) (by decide)))
  have f31 := f24.other W27 (Or.inr (slot_ne (Or.inr (w34 hw)) (Or.inr (w36 hw)) (by decide) (t := .boolean) (t' := .int) (by decide) (by decide)))
  have f32 := f25.same W27
  have f33 := f26.wr W27
  exact o_return H27 rfl d2_27 oSt.tt (fun _ q => q) (by decide) (by decide) ⟨rfl, k28, f30, f31, f32⟩
theorem d5_0 : decode prog_31_method_5_code 0 = .ok (.aload_n 1, 1) := by decide +kernel
theorem d5_1 : decode prog_31_method_5_code 1 = .ok (.instanceof 18, 3) := by decide +kernel
theorem d5_4 : decode prog_31_method_5_code 4 = .ok (.ifCond .eq 45, 3) := by decide +kernel
theorem d5_7 : decode prog_31_method_5_code 7 = .ok (.aload_n 1, 1) := by decide +kernel
theorem d5_8 : decode prog_31_method_5_code 8 = .ok (.checkcast 18, 3) := by decide +kernel
theorem d5_11 : decode prog_31_method_5_code 11 = .ok (.astore_n 2, 1) := by decide +kernel
theorem d5_12 : decode prog_31_method_5_code 12 = .ok (.aload_n 0, 1) := by decide +kernel
theorem d5_13 : decode prog_31_method_5_code 13 = .ok (.getfield 17, 3) := by decide +kernel
theorem d5_16 : decode prog_31_method_5_code 16 = .ok (.aload_n 2, 1) := by decide +kernel
theorem d5_17 : decode prog_31_method_5_code 17 = .ok (.getfield 17, 3) := by decide +kernel
theorem d5_20 : decode prog_31_method_5_code 20 = .ok (.if_acmp .ne 29, 3) := by decide +kernel
theorem d5_23 : decode prog_31_method_5_code 23 = .ok (.aload_n 0, 1) := by decide +kernel
theorem d5_24 : decode prog_31_method_5_code 24 = .ok (.getfield 22, 3) := by decide +kernel
theorem d5_27 : decode prog_31_method_5_code 27 = .ok (.aload_n 2, 1) := by decide +kernel
theorem d5_28 : decode prog_31_method_5_code 28 = .ok (.getfield 22, 3) := by decide +kernel
theorem d5_31 : decode prog_31_method_5_code 31 = .ok (.if_icmp .ne 18, 3) := by decide +kernel
theorem d5_34 : decode prog_31_method_5_code 34 = .ok (.aload_n 0, 1) := by decide +kernel
theorem d5_35 : decode prog_31_method_5_code 35 = .ok (.getfield 26, 3) := by decide +kernel
theorem d5_38 : decode prog_31_method_5_code 38 = .ok (.aload_n 2, 1) := by decide +kernel
theorem d5_39 : decode prog_31_method_5_code 39 = .ok (.getfield 26, 3) := by decide +kernel
theorem d5_42 : decode prog_31_method_5_code 42 = .ok (.if_icmp .ne 7, 3) := by decide +kernel
theorem d5_45 : decode prog_31_method_5_code 45 = .ok (.iconst 1, 1) := by decide +kernel
theorem d5_46 : decode prog_31_method_5_code 46 = .ok (.goto 4, 3) := by decide +kernel
theorem d5_49 : decode prog_31_method_5_code 49 = .ok (.iconst 0, 1) := by decide +kernel
theorem d5_50 : decode prog_31_method_5_code 50 = .ok (.ireturn, 1) := by decide +kernel
theorem pn5 : plainFor (⟨"com/example/bare_triage/baretriage/snapshot/ActivityInfo", "equals", "(Ljava/lang/Object;)Z"⟩ : MethodName) = true := plainFor_of_name (by first | (simp [plainName, overriddenIn]; done) | decide +kernel)
theorem pd5 : parseMethodDescriptor "(Ljava/lang/Object;)Z" = some ⟨[(.object "java/lang/Object")], some .boolean⟩ := by decide +kernel
set_option maxRecDepth 65536 in
set_option maxHeartbeats 40000000 in
theorem rm5_T (l : Launch) (Z : State) (a0 : Array Value) (hw : ∀ d ∈ tables_1, d.before a0 Z = true) (a1 : Addr) (a2 : Addr) (q1 : Addr) (q2 q3 : Int32) (r1 : Addr) (r2 r3 : Int32) (h0 : Heap) (n0 : Nat) (Z0 : n0 ≤ h0.size) (E_a1 : Exa Z h0 a1 "com/example/bare_triage/baretriage/snapshot/ActivityInfo") (F_state_a1 : Fld Z h0 a1 "com/example/bare_triage/baretriage/snapshot/ActivityInfo" "state" "Lcom/example/bare_triage/baretriage/snapshot/ActivityState;" (.ref q1)) (F_finishing_a1 : Fld Z h0 a1 "com/example/bare_triage/baretriage/snapshot/ActivityInfo" "finishing" "Z" (.int q2)) (F_layerRank_a1 : Fld Z h0 a1 "com/example/bare_triage/baretriage/snapshot/ActivityInfo" "layerRank" "I" (.int q3)) (E_a2 : Exa Z h0 a2 "com/example/bare_triage/baretriage/snapshot/ActivityInfo") (F_state_a2 : Fld Z h0 a2 "com/example/bare_triage/baretriage/snapshot/ActivityInfo" "state" "Lcom/example/bare_triage/baretriage/snapshot/ActivityState;" (.ref r1)) (F_finishing_a2 : Fld Z h0 a2 "com/example/bare_triage/baretriage/snapshot/ActivityInfo" "finishing" "Z" (.int r2)) (F_layerRank_a2 : Fld Z h0 a2 "com/example/bare_triage/baretriage/snapshot/ActivityInfo" "layerRank" "I" (.int r3)) :
    oC l Z n0 (fun _ => True) (fun _ => True) (⟨"com/example/bare_triage/baretriage/snapshot/ActivityInfo", "equals", "(Ljava/lang/Object;)Z"⟩ : MethodName) prog_31_method_5_code 3 (some .boolean) ({ frames := 0, cells := 0, slots := 0, locals := 0 } : Room) 0 0 #[(.ref a1), (.ref a2)] h0 (fun v h => v = some (.int (own_eq q1 q2 q3 r1 r2 r3)) ∧ h0 = h) := by
  refine oC.of (b := false) (L := #[.val (.ref a1), .val (.ref a2), .unset]) pn5 Z0 (fun q => (nomatch q)) (fun m => by first | (simp [entryFrame, mkF, argsToLocals, Value.category]; done) | rfl) ?_
  intro p e s m below meth c T H
  refine o_aloadN H rfl rfl d5_0 rfl ?_
  refine o_instY H (w44 hw) (Ins.self E_a2) d5_1 rfl ?_
  intro T1 H2
  refine o_if_f H2 d5_4 (by decide) rfl ?_
  refine o_aloadN H2 rfl rfl d5_7 rfl ?_
  refine o_castY H2 (w44 hw) (Ins.self E_a2) d5_8 rfl ?_
  intro T3 H4
  refine o_astoreN H4 (L' := #[.val (.ref a1), .val (.ref a2), .val (.ref a2)]) rfl rfl d5_11 rfl ?_
  refine o_aloadN H4 rfl rfl d5_12 rfl ?_
  refine o_getF H4 (host := "") (Or.inl (w31 hw)) F_state_a1 d5_13 rfl ?_
  intro T5 H6
  refine o_aloadN H6 rfl rfl d5_16 rfl ?_
  refine o_getF H6 (host := "") (Or.inl (w31 hw)) F_state_a2 d5_17 rfl ?_
  intro T7 H8
  by_cases a20_9 : q1 = r1
  · refine o_acmp_f H8 d5_20 rfl rfl (XT.aa_ne_f (by rw [a20_9])) rfl ?_
    refine o_aloadN H8 rfl rfl d5_23 rfl ?_
    refine o_getF H8 (host := "") (Or.inl (w33 hw)) F_finishing_a1 d5_24 rfl ?_
    intro T10 H11
    refine o_aloadN H11 rfl rfl d5_27 rfl ?_
    refine o_getF H11 (host := "") (Or.inl (w33 hw)) F_finishing_a2 d5_28 rfl ?_
    intro T12 H13
    refine o_icmp_ne H13 d5_31 (pt := 49) (by decide) (by decide) rfl ?_ ?_
    · intro c31_14
      refine o_iconst H13 (0 : Int32) rfl d5_49 rfl ?_
      exact o_nreturn H13 .boolean rfl (by simp) d5_50 oSt.tt (fun _ q => q) (by decide) (by decide) ⟨by simp [own_eq, nar, a20_9, c31_14], rfl⟩
    · intro c31_14
      refine o_aloadN H13 rfl rfl d5_34 rfl ?_
      refine o_getF H13 (host := "") (Or.inl (w35 hw)) F_layerRank_a1 d5_35 rfl ?_
      intro T15 H16
      refine o_aloadN H16 rfl rfl d5_38 rfl ?_
      refine o_getF H16 (host := "") (Or.inl (w35 hw)) F_layerRank_a2 d5_39 rfl ?_
      intro T17 H18
      refine o_icmp_ne H18 d5_42 (pt := 49) (by decide) (by decide) rfl ?_ ?_
      · intro c42_19
        refine o_iconst H18 (0 : Int32) rfl d5_49 rfl ?_
        exact o_nreturn H18 .boolean rfl (by simp) d5_50 oSt.tt (fun _ q => q) (by decide) (by decide) ⟨by simp [own_eq, nar, a20_9, c31_14, c42_19], rfl⟩
      · intro c42_19
        refine o_iconst H18 (1 : Int32) rfl d5_45 rfl ?_
        refine o_goto H18 d5_46 (pt := 50) (by decide) (by decide) ?_
        exact o_nreturn H18 .boolean rfl (by simp) d5_50 oSt.tt (fun _ q => q) (by decide) (by decide) ⟨by simp [own_eq, nar, a20_9, c31_14, c42_19], rfl⟩
  · refine o_acmp_t H8 d5_20 rfl rfl (XT.aa_ne_t (fun q => a20_9 (Value.ref.inj q))) (pt := 49) (by decide) (by decide) ?_
    refine o_iconst H8 (0 : Int32) rfl d5_49 rfl ?_
    exact o_nreturn H8 .boolean rfl (by simp) d5_50 oSt.tt (fun _ q => q) (by decide) (by decide) ⟨by simp [own_eq, nar, a20_9], rfl⟩
set_option maxRecDepth 65536 in
set_option maxHeartbeats 40000000 in
theorem rm5_N (l : Launch) (Z : State) (a0 : Array Value) (hw : ∀ d ∈ tables_1, d.before a0 Z = true) (a1 : Addr)  (h0 : Heap) (n0 : Nat) (Z0 : n0 ≤ h0.size)  :
    oC l Z n0 (fun _ => True) (fun _ => True) (⟨"com/example/bare_triage/baretriage/snapshot/ActivityInfo", "equals", "(Ljava/lang/Object;)Z"⟩ : MethodName) prog_31_method_5_code 3 (some .boolean) ({ frames := 0, cells := 0, slots := 0, locals := 0 } : Room) 0 0 #[(.ref a1), .null] h0 (fun v h => v = some (.int 0) ∧ h0 = h) := by
  refine oC.of (b := false) (L := #[.val (.ref a1), .val .null, .unset]) pn5 Z0 (fun q => (nomatch q)) (fun m => by first | (simp [entryFrame, mkF, argsToLocals, Value.category]; done) | rfl) ?_
  intro p e s m below meth c T H
  refine o_aloadN H rfl rfl d5_0 rfl ?_
  refine o_instNull H d5_1 rfl ?_
  refine o_if_t H d5_4 (by decide) (pt := 49) (by decide) (by decide) ?_
  refine o_iconst H (0 : Int32) rfl d5_49 rfl ?_
  exact o_nreturn H .boolean rfl (by simp) d5_50 oSt.tt (fun _ q => q) (by decide) (by decide) ⟨rfl, rfl⟩
set_option maxRecDepth 65536 in
set_option maxHeartbeats 40000000 in
theorem rm5_I (l : Launch) (Z : State) (a0 : Array Value) (hw : ∀ d ∈ tables_1, d.before a0 Z = true) (a1 : Addr) (a2 : Addr)  (h0 : Heap) (n0 : Nat) (Z0 : n0 ≤ h0.size) (E_a2 : Exa Z h0 a2 "java/lang/Integer") :
    oC l Z n0 (fun _ => True) (fun _ => True) (⟨"com/example/bare_triage/baretriage/snapshot/ActivityInfo", "equals", "(Ljava/lang/Object;)Z"⟩ : MethodName) prog_31_method_5_code 3 (some .boolean) ({ frames := 0, cells := 0, slots := 0, locals := 0 } : Room) 0 0 #[(.ref a1), (.ref a2)] h0 (fun v h => v = some (.int 0) ∧ h0 = h) := by
  refine oC.of (b := false) (L := #[.val (.ref a1), .val (.ref a2), .unset]) pn5 Z0 (fun q => (nomatch q)) (fun m => by first | (simp [entryFrame, mkF, argsToLocals, Value.category]; done) | rfl) ?_
  intro p e s m below meth c T H
  refine o_aloadN H rfl rfl d5_0 rfl ?_
  refine o_instNo H (w44 hw) E_a2 (o_ns (w59 hw) (w2 hw) (NS.step (w59 hw) (NS.step (w60 hw) (o_subRoot (w61 hw) (w2 hw) (by decide)) (by decide)) (by decide)) (by decide)) d5_1 rfl ?_
  intro T1 H2
  refine o_if_t H2 d5_4 (by decide) (pt := 49) (by decide) (by decide) ?_
  refine o_iconst H2 (0 : Int32) rfl d5_49 rfl ?_
  exact o_nreturn H2 .boolean rfl (by simp) d5_50 oSt.tt (fun _ q => q) (by decide) (by decide) ⟨rfl, rfl⟩
theorem pn0 : plainFor x = true := plainFor_of_name (by first | (simp [plainName, overriddenIn]; done) | decide +kernel)
set_option maxRecDepth 65536 in
set_option maxHeartbeats 40000000 in
theorem rm0 (l : Launch) (Z : State) (a0 : Array Value) (hw : ∀ d ∈ tables_1, d.before a0 Z = true) (p1 : Int32) (p2 : Int32) (p3 : Int32) (p4 : Int32) (p5 : Int32) (ca : Addr) (cl : Cell) (s0 s1 s2 s3 s4 : Addr) (h0 : Heap) (n0 : Nat) (Z0 : n0 ≤ h0.size) (S_high : Sta Z h0 "java/lang/Integer$IntegerCache" "high" "I" (.int 127)) (S_cache : Sta Z h0 "java/lang/Integer$IntegerCache" "cache" "[Ljava/lang/Integer;" (.ref ca)) (AC : Arr Z Z.heap ca cl (.object "java/lang/Integer")) (BX : ∀ j : Int32, ¬ j < 0 → j < 256 → ¬ (j < 0 ∨ cl.slots.size ≤ j.toNatClampNeg) ∧ ∃ b, cl.slots[j.toNatClampNeg]? = some (.ref b) ∧ Exa Z Z.heap b "java/lang/Integer") (E0 : Ext Z.heap h0) (S_0 : Sta Z h0 "com/example/bare_triage/baretriage/snapshot/ActivityState" "VISIBLE" "Lcom/example/bare_triage/baretriage/snapshot/ActivityState;" (.ref s0)) (S_1 : Sta Z h0 "com/example/bare_triage/baretriage/snapshot/ActivityState" "PAUSING" "Lcom/example/bare_triage/baretriage/snapshot/ActivityState;" (.ref s1)) (S_2 : Sta Z h0 "com/example/bare_triage/baretriage/snapshot/ActivityState" "PAUSED" "Lcom/example/bare_triage/baretriage/snapshot/ActivityState;" (.ref s2)) (S_3 : Sta Z h0 "com/example/bare_triage/baretriage/snapshot/ActivityState" "STOPPING" "Lcom/example/bare_triage/baretriage/snapshot/ActivityState;" (.ref s3)) (S_4 : Sta Z h0 "com/example/bare_triage/baretriage/snapshot/ActivityState" "STOPPED" "Lcom/example/bare_triage/baretriage/snapshot/ActivityState;" (.ref s4)) (EX : ∀ k : Int32, Exa Z h0 (own_st s0 s1 s2 s3 s4 k) "com/example/bare_triage/baretriage/snapshot/ActivityState") (HD : ∀ i j : Int32, (0 ≤ i.toInt ∧ i.toInt < 5) → (0 ≤ j.toInt ∧ j.toInt < 5) → own_st s0 s1 s2 s3 s4 i = own_st s0 s1 s2 s3 s4 j → i = j) :
    oC l Z n0 (fun _ => True) (fun _ => True) x code maxLocals ret room_1 16 1152 #[(.int p1), (.int p2), (.int p3), (.int p4), (.int p5)] h0 (fun v h => v = some (.int 1)) := by
  refine oC.of (b := false) (L := #[.val (.int p1), .val (.int p2), .val (.int p3), .val (.int p4), .val (.int p5), .unset, .unset, .unset, .unset, .unset, .unset, .unset, .unset, .unset]) pn0 Z0 (fun q => (nomatch q)) (fun m => by first | (simp [entryFrame, mkF, argsToLocals, Value.category, maxLocals]; done) | rfl) ?_
  intro p e s m below meth c T H
  refine o_iloadN H rfl at_0 rfl ?_
  refine o_ldcI H (2147483647 : Int32) (w0 hw) at_1 rfl ?_
  refine o_iand H at_3 rfl ?_
  refine o_iconst H (5 : Int32) rfl at_4 rfl ?_
  refine o_irem H (by decide) at_5 rfl ?_
  refine o_istore H (L' := #[.val (.int p1), .val (.int p2), .val (.int p3), .val (.int p4), .val (.int p5), .val (.int ((p1 &&& (2147483647 : Int32)) % (5 : Int32))), .unset, .unset, .unset, .unset, .unset, .unset, .unset, .unset]) rfl at_6 rfl ?_
  refine o_iloadN H rfl at_8 rfl ?_
  refine o_ldcI H (2147483647 : Int32) (w0 hw) at_9 rfl ?_
  refine o_iand H at_11 rfl ?_
  refine o_iconst H (5 : Int32) rfl at_12 rfl ?_
  refine o_irem H (by decide) at_13 rfl ?_
  refine o_istore H (L' := #[.val (.int p1), .val (.int p2), .val (.int p3), .val (.int p4), .val (.int p5), .val (.int ((p1 &&& (2147483647 : Int32)) % (5 : Int32))), .val (.int ((p2 &&& (2147483647 : Int32)) % (5 : Int32))), .unset, .unset, .unset, .unset, .unset, .unset, .unset]) rfl at_14 rfl ?_
  obtain ⟨ka, e_ka⟩ : ∃ z : Int32, z = ((p1 &&& (2147483647 : Int32)) % (5 : Int32)) := ⟨_, rfl⟩
  rw [← e_ka]
  have r_ka := own_r5 p1
  rw [← e_ka] at r_ka
  obtain ⟨kb, e_kb⟩ : ∃ z : Int32, z = ((p2 &&& (2147483647 : Int32)) % (5 : Int32)) := ⟨_, rfl⟩
  rw [← e_kb]
  have r_kb := own_r5 p2
  rw [← e_kb] at r_kb
  have j1 : ∀ b2 : Int32, b2 = (if ¬ (p5 &&& (1 : Int32)) = 0 then (1 : Int32) else 0) → oG p e below s n0 16 1152 (fun _ => True) (fun v h => v = some (.int 1)) (T.setTop (mkF m 28 #[.val (.int p1), .val (.int p2), .val (.int p3), .val (.int p4), .val (.int p5), .val (.int ka), .val (.int kb), .unset, .unset, .unset, .unset, .unset, .unset, .unset] [(.int b2)])) := by
    intro b2 eb2
    refine o_istore H (L' := #[.val (.int p1), .val (.int p2), .val (.int p3), .val (.int p4), .val (.int p5), .val (.int ka), .val (.int kb), .val (.int b2), .unset, .unset, .unset, .unset, .unset, .unset]) rfl at_28 rfl ?_
    have j3 : ∀ b4 : Int32, b4 = (if ¬ (p5 &&& (2 : Int32)) = 0 then (1 : Int32) else 0) → oG p e below s n0 16 1152 (fun _ => True) (fun v h => v = some (.int 1)) (T.setTop (mkF m 42 #[.val (.int p1), .val (.int p2), .val (.int p3), .val (.int p4), .val (.int p5), .val (.int ka), .val (.int kb), .val (.int b2), .unset, .unset, .unset, .unset, .unset, .unset] [(.int b4)])) := by
      intro b4 eb4
      refine o_istore H (L' := #[.val (.int p1), .val (.int p2), .val (.int p3), .val (.int p4), .val (.int p5), .val (.int ka), .val (.int kb), .val (.int b2), .val (.int b4), .unset, .unset, .unset, .unset, .unset]) rfl at_42 rfl ?_
      have j5 : ∀ (r2j5 : Int32), oG p e below s n0 16 1152 (fun _ => True) (fun v h => v = some (.int 1)) (T.setTop (mkF m 56 #[.val (.int p1), .val (.int p2), .val (.int p3), .val (.int p4), .val (.int p5), .val (.int ka), .val (.int kb), .val (.int b2), .val (.int b4), .unset, .unset, .unset, .unset, .unset] [(.int r2j5)])) := by
        intro r2j5 
        refine o_istore H (L' := #[.val (.int p1), .val (.int p2), .val (.int p3), .val (.int p4), .val (.int p5), .val (.int ka), .val (.int kb), .val (.int b2), .val (.int b4), .val (.int r2j5), .unset, .unset, .unset, .unset]) rfl at_56 rfl ?_
        refine o_new H (w1 hw) (w2 hw) (w3 hw) at_58 rfl (by decide) (by decide) ?_
        intro T6 h6 b6 g6 H6 E6 A6 D6
        have z6 : n0 ≤ b6 := by rw [g6]; exact H.le
        have y6 : h0.size ≤ b6 := by rw [g6]; exact (Keep.refl h0 []).1
        have k7 := (Keep.refl h0 []).ext E6
        have f8 : Fld Z h6 b6 "com/example/bare_triage/baretriage/snapshot/ActivityInfo" "state" "Lcom/example/bare_triage/baretriage/snapshot/ActivityState;" .null := D6 (Or.inr (w32 hw)) (ty := (.object "com/example/bare_triage/baretriage/snapshot/ActivityState")) (by decide)
        have f9 : Fld Z h6 b6 "com/example/bare_triage/baretriage/snapshot/ActivityInfo" "finishing" "Z" (.int (0 : Int32)) := D6 (Or.inr (w34 hw)) (ty := .boolean) (by decide)
        have f10 : Fld Z h6 b6 "com/example/bare_triage/baretriage/snapshot/ActivityInfo" "layerRank" "I" (.int (0 : Int32)) := D6 (Or.inr (w36 hw)) (ty := .int) (by decide)
        refine o_dup H6 rfl at_61 rfl ?_
        refine o_iload H6 rfl at_62 rfl ?_
        refine o_static H6 [(.int ka)] [(.ref b6), (.ref b6)] (rm1 l Z a0 hw ka s0 s1 s2 s3 s4 h6 n0 H6.le (S_0.ext (o_kext k7)) (S_1.ext (o_kext k7)) (S_2.ext (o_kext k7)) (S_3.ext (o_kext k7)) (S_4.ext (o_kext k7))) (w4 hw) (w5 hw) (w6 hw) (w7 hw) (by decide) (lenOf pd1 rfl) rfl rfl (by decide) (Nat.le_of_ble_eq_true rfl) (by decide) (by decide) at_64 rfl (fun _ q => q) oSt.tt ?_
        intro T11 v11 h11 H11 q11
        obtain ⟨rfl, rfl⟩ := q11
        have EX11 := (EX ka).ext (o_kext k7)
        show oG p e below s n0 _ _ _ _ (T11.setTop (mkF m 67 #[.val (.int p1), .val (.int p2), .val (.int p3), .val (.int p4), .val (.int p5), .val (.int ka), .val (.int kb), .val (.int b2), .val (.int b4), .val (.int r2j5), .unset, .unset, .unset, .unset] [(.ref (own_st s0 s1 s2 s3 s4 ka)), (.ref b6), (.ref b6)]))
        refine o_iload H11 rfl at_67 rfl ?_
        refine o_iloadN H11 rfl at_69 rfl ?_
        refine o_special H11 [(.ref (own_st s0 s1 s2 s3 s4 ka)), (.int b2), (.int p3)] [(.ref b6)] (rm2 l Z a0 hw b6 (own_st s0 s1 s2 s3 s4 ka) b2 p3 h6 n0 H11.le A6 z6 f8 f9 f10 EX11) rfl (w11 hw) (w12 hw) (w3 hw) (w13 hw) (by decide) (lenOf pd2 rfl) rfl rfl (by decide) (Nat.le_of_ble_eq_true rfl) (by decide) (by decide) at_70 rfl (fun _ q => q) oSt.tt ?_
        intro T12 v12 h12 H12 q12
        obtain ⟨rfl, K12, F12_0, F12_1, F12_2⟩ := q12
        have k13 := k7.trans K12 (allS (Or.inr y6) all0)
        have f14 := A6.keep K12
        show oG p e below s n0 _ _ _ _ (T12.setTop (mkF m 73 #[.val (.int p1), .val (.int p2), .val (.int p3), .val (.int p4), .val (.int p5), .val (.int ka), .val (.int kb), .val (.int b2), .val (.int b4), .val (.int r2j5), .unset, .unset, .unset, .unset] [(.ref b6)]))
        refine o_astore H12 (L' := #[.val (.int p1), .val (.int p2), .val (.int p3), .val (.int p4), .val (.int p5), .val (.int ka), .val (.int kb), .val (.int b2), .val (.int b4), .val (.int r2j5), .val (.ref b6), .unset, .unset, .unset]) rfl rfl at_73 rfl ?_
        refine o_new H12 (w1 hw) (w2 hw) (w3 hw) at_75 rfl (by decide) (by decide) ?_
        intro T15 h15 b15 g15 H15 E15 A15 D15
        have ne15_b6 : b6 ≠ b15 := by rw [g15]; exact Nat.ne_of_lt (f14).lt
        have z15 : n0 ≤ b15 := by rw [g15]; exact H12.le
        have y15 : h0.size ≤ b15 := by rw [g15]; exact k13.1
        have k16 := k13.ext E15
        have f17 := f14.ext E15
        have f18 := F12_0.ext E15
        have f19 := F12_1.ext E15
        have f20 := F12_2.ext E15
        have f21 : Fld Z h15 b15 "com/example/bare_triage/baretriage/snapshot/ActivityInfo" "state" "Lcom/example/bare_triage/baretriage/snapshot/ActivityState;" .null := D15 (Or.inr (w32 hw)) (ty := (.object "com/example/bare_triage/baretriage/snapshot/ActivityState")) (by decide)
        have f22 : Fld Z h15 b15 "com/example/bare_triage/baretriage/snapshot/ActivityInfo" "finishing" "Z" (.int (0 : Int32)) := D15 (Or.inr (w34 hw)) (ty := .boolean) (by decide)
        have f23 : Fld Z h15 b15 "com/example/bare_triage/baretriage/snapshot/ActivityInfo" "layerRank" "I" (.int (0 : Int32)) := D15 (Or.inr (w36 hw)) (ty := .int) (by decide)
        refine o_dup H15 rfl at_78 rfl ?_
        refine o_iload H15 rfl at_79 rfl ?_
        refine o_static H15 [(.int kb)] [(.ref b15), (.ref b15)] (rm1 l Z a0 hw kb s0 s1 s2 s3 s4 h15 n0 H15.le (S_0.ext (o_kext k16)) (S_1.ext (o_kext k16)) (S_2.ext (o_kext k16)) (S_3.ext (o_kext k16)) (S_4.ext (o_kext k16))) (w4 hw) (w5 hw) (w6 hw) (w7 hw) (by decide) (lenOf pd1 rfl) rfl rfl (by decide) (Nat.le_of_ble_eq_true rfl) (by decide) (by decide) at_81 rfl (fun _ q => q) oSt.tt ?_
        intro T24 v24 h24 H24 q24
        obtain ⟨rfl, rfl⟩ := q24
        have EX24 := (EX kb).ext (o_kext k16)
        show oG p e below s n0 _ _ _ _ (T24.setTop (mkF m 84 #[.val (.int p1), .val (.int p2), .val (.int p3), .val (.int p4), .val (.int p5), .val (.int ka), .val (.int kb), .val (.int b2), .val (.int b4), .val (.int r2j5), .val (.ref b6), .unset, .unset, .unset] [(.ref (own_st s0 s1 s2 s3 s4 kb)), (.ref b15), (.ref b15)]))
        refine o_iload H24 rfl at_84 rfl ?_
        refine o_iload H24 rfl at_86 rfl ?_
        refine o_special H24 [(.ref (own_st s0 s1 s2 s3 s4 kb)), (.int b4), (.int r2j5)] [(.ref b15)] (rm2 l Z a0 hw b15 (own_st s0 s1 s2 s3 s4 kb) b4 r2j5 h15 n0 H24.le A15 z15 f21 f22 f23 EX24) rfl (w11 hw) (w12 hw) (w3 hw) (w13 hw) (by decide) (lenOf pd2 rfl) rfl rfl (by decide) (Nat.le_of_ble_eq_true rfl) (by decide) (by decide) at_88 rfl (fun _ q => q) oSt.tt ?_
        intro T25 v25 h25 H25 q25
        obtain ⟨rfl, K25, F25_0, F25_1, F25_2⟩ := q25
        have k26 := k16.trans K25 (allS (Or.inr y15) all0)
        have f27 := f17.keep K25
        have f28 := f18.keep K25 (ninS ne15_b6 nin0)
        have f29 := f19.keep K25 (ninS ne15_b6 nin0)
        have f30 := f20.keep K25 (ninS ne15_b6 nin0)
        have f31 := A15.keep K25
        show oG p e below s n0 _ _ _ _ (T25.setTop (mkF m 91 #[.val (.int p1), .val (.int p2), .val (.int p3), .val (.int p4), .val (.int p5), .val (.int ka), .val (.int kb), .val (.int b2), .val (.int b4), .val (.int r2j5), .val (.ref b6), .unset, .unset, .unset] [(.ref b15)]))
        refine o_astore H25 (L' := #[.val (.int p1), .val (.int p2), .val (.int p3), .val (.int p4), .val (.int p5), .val (.int ka), .val (.int kb), .val (.int b2), .val (.int b4), .val (.int r2j5), .val (.ref b6), .val (.ref b15), .unset, .unset]) rfl rfl at_91 rfl ?_
        refine o_iload H25 rfl at_93 rfl ?_
        refine o_iconst H25 (3 : Int32) rfl at_95 rfl ?_
        refine o_iushr H25 at_96 rfl ?_
        refine o_iconst H25 (3 : Int32) rfl at_97 rfl ?_
        refine o_iand H25 at_98 rfl ?_
        refine o_istore H25 (L' := #[.val (.int p1), .val (.int p2), .val (.int p3), .val (.int p4), .val (.int p5), .val (.int ka), .val (.int kb), .val (.int b2), .val (.int b4), .val (.int r2j5), .val (.ref b6), .val (.ref b15), .val (.int ((XT.ushr p5 (3 : Int32)) &&& (3 : Int32))), .unset]) rfl at_99 rfl ?_
        refine o_iload H25 rfl at_101 rfl ?_
        refine o_if_ne H25 at_103 (pt := 163) (by decide) (by decide) rfl ?_ ?_
        · intro c103_32
          refine o_iload H25 rfl at_163 rfl ?_
          refine o_iconst H25 (1 : Int32) rfl at_165 rfl ?_
          refine o_icmp_ne H25 at_166 (pt := 184) (by decide) (by decide) rfl ?_ ?_
          · intro c166_33
            refine o_iload H25 rfl at_184 rfl ?_
            refine o_iconst H25 (2 : Int32) rfl at_186 rfl ?_
            refine o_icmp_ne H25 at_187 (pt := 212) (by decide) (by decide) rfl ?_ ?_
            · intro c187_34
              refine o_aload H25 rfl rfl at_212 rfl ?_
              refine o_aload H25 rfl rfl at_214 rfl ?_
              refine o_virtual H25 [(.ref b6)] [] ((rm5_T l Z a0 hw b6 b6 (own_st s0 s1 s2 s3 s4 ka) (nar .boolean b2) p3 (own_st s0 s1 s2 s3 s4 ka) (nar .boolean b2) p3 h25 n0 H25.le f27 f28 f29 f30 f27 f28 f29 f30).mono (fun v h q => (⟨by rw [q.1, own_eq, if_pos ⟨rfl, rfl, rfl⟩], q.2⟩ : v = some (.int 1) ∧ h25 = h))) f27 (w39 hw) (w40 hw) (o_nf (w42 hw)) (w42 hw) (w41 hw) (w3 hw) (w43 hw) (by decide) (lenOf pd5 rfl) rfl rfl (by decide) (Nat.le_of_ble_eq_true rfl) (by decide) (by decide) at_216 rfl (fun _ q => q) oSt.tt ?_
              intro T35 v35 h35 H35 q35
              obtain ⟨rfl, rfl⟩ := q35
              show oG p e below s n0 _ _ _ _ (T35.setTop (mkF m 219 #[.val (.int p1), .val (.int p2), .val (.int p3), .val (.int p4), .val (.int p5), .val (.int ka), .val (.int kb), .val (.int b2), .val (.int b4), .val (.int r2j5), .val (.ref b6), .val (.ref b15), .val (.int ((XT.ushr p5 (3 : Int32)) &&& (3 : Int32))), .unset] [(.int (1 : Int32))]))
              exact o_nreturn H35 .boolean rfl (by simp) at_219 oSt.tt (fun _ q => q) (by decide) (by decide) rfl
            · intro c187_34
              refine o_iloadN H25 rfl at_190 rfl ?_
              refine o_static H25 [(.int p3)] [] (rm6 l Z a0 hw p3 ca cl h25 n0 H25.le (S_high.ext (o_kext k26)) (S_cache.ext (o_kext k26)) AC BX (o_etrans E0 (o_kext k26))) (w52 hw) (w53 hw) (w54 hw) (w55 hw) (by decide) (lenOf pd6 rfl) rfl rfl (by decide) (Nat.le_of_ble_eq_true rfl) (by decide) (by decide) at_191 rfl (fun _ q => q) oSt.tt ?_
              intro T36 v36 h36 H36 q36
              obtain ⟨r36, rfl, K36, E36⟩ := q36
              have k37 := k26.trans K36 all0
              have f38 := f27.keep K36
              have f39 := f28.keep K36 nin0
              have f40 := f29.keep K36 nin0
              have f41 := f30.keep K36 nin0
              have f42 := f31.keep K36
              have f43 := F25_0.keep K36 nin0
              have f44 := F25_1.keep K36 nin0
              have f45 := F25_2.keep K36 nin0
              show oG p e below s n0 _ _ _ _ (T36.setTop (mkF m 194 #[.val (.int p1), .val (.int p2), .val (.int p3), .val (.int p4), .val (.int p5), .val (.int ka), .val (.int kb), .val (.int b2), .val (.int b4), .val (.int r2j5), .val (.ref b6), .val (.ref b15), .val (.int ((XT.ushr p5 (3 : Int32)) &&& (3 : Int32))), .unset] [(.ref r36)]))
              refine o_astore H36 (L' := #[.val (.int p1), .val (.int p2), .val (.int p3), .val (.int p4), .val (.int p5), .val (.int ka), .val (.int kb), .val (.int b2), .val (.int b4), .val (.int r2j5), .val (.ref b6), .val (.ref b15), .val (.int ((XT.ushr p5 (3 : Int32)) &&& (3 : Int32))), .val (.ref r36)]) rfl rfl at_194 rfl ?_
              refine o_aload H36 rfl rfl at_196 rfl ?_
              refine o_aload H36 rfl rfl at_198 rfl ?_
              refine o_virtual H36 [(.ref r36)] [] (rm5_I l Z a0 hw b6 r36 h36 n0 H36.le E36) f38 (w39 hw) (w40 hw) (o_nf (w42 hw)) (w42 hw) (w41 hw) (w3 hw) (w43 hw) (by decide) (lenOf pd5 rfl) rfl rfl (by decide) (Nat.le_of_ble_eq_true rfl) (by decide) (by decide) at_200 rfl (fun _ q => q) oSt.tt ?_
              intro T46 v46 h46 H46 q46
              obtain ⟨rfl, rfl⟩ := q46
              show oG p e below s n0 _ _ _ _ (T46.setTop (mkF m 203 #[.val (.int p1), .val (.int p2), .val (.int p3), .val (.int p4), .val (.int p5), .val (.int ka), .val (.int kb), .val (.int b2), .val (.int b4), .val (.int r2j5), .val (.ref b6), .val (.ref b15), .val (.int ((XT.ushr p5 (3 : Int32)) &&& (3 : Int32))), .val (.ref r36)] [(.int (0 : Int32))]))
              refine o_if_f H46 at_203 (by decide) rfl ?_
              refine o_iconst H46 (1 : Int32) rfl at_206 rfl ?_
              refine o_goto H46 at_207 (pt := 211) (by decide) (by decide) ?_
              exact o_nreturn H46 .boolean rfl (by simp) at_211 oSt.tt (fun _ q => q) (by decide) (by decide) rfl
          · intro c166_33
            refine o_aload H25 rfl rfl at_169 rfl ?_
            refine o_aconst_null H25 at_171 rfl ?_
            refine o_virtual H25 [.null] [] (rm5_N l Z a0 hw b6 h25 n0 H25.le) f27 (w39 hw) (w40 hw) (o_nf (w42 hw)) (w42 hw) (w41 hw) (w3 hw) (w43 hw) (by decide) (lenOf pd5 rfl) rfl rfl (by decide) (Nat.le_of_ble_eq_true rfl) (by decide) (by decide) at_172 rfl (fun _ q => q) oSt.tt ?_
            intro T47 v47 h47 H47 q47
            obtain ⟨rfl, rfl⟩ := q47
            show oG p e below s n0 _ _ _ _ (T47.setTop (mkF m 175 #[.val (.int p1), .val (.int p2), .val (.int p3), .val (.int p4), .val (.int p5), .val (.int ka), .val (.int kb), .val (.int b2), .val (.int b4), .val (.int r2j5), .val (.ref b6), .val (.ref b15), .val (.int ((XT.ushr p5 (3 : Int32)) &&& (3 : Int32))), .unset] [(.int (0 : Int32))]))
            refine o_if_f H47 at_175 (by decide) rfl ?_
            refine o_iconst H47 (1 : Int32) rfl at_178 rfl ?_
            refine o_goto H47 at_179 (pt := 183) (by decide) (by decide) ?_
            exact o_nreturn H47 .boolean rfl (by simp) at_183 oSt.tt (fun _ q => q) (by decide) (by decide) rfl
        · intro c103_32
          have j48 : ∀ b49 : Int32, b49 = (if ka = kb ∧ b2 = b4 ∧ p3 = r2j5 then (1 : Int32) else 0) → oG p e below s n0 16 1152 (fun _ => True) (fun v h => v = some (.int 1)) (T25.setTop (mkF m 131 #[.val (.int p1), .val (.int p2), .val (.int p3), .val (.int p4), .val (.int p5), .val (.int ka), .val (.int kb), .val (.int b2), .val (.int b4), .val (.int r2j5), .val (.ref b6), .val (.ref b15), .val (.int ((XT.ushr p5 (3 : Int32)) &&& (3 : Int32))), .unset] [(.int b49)])) := by
            intro b49 eb49
            refine o_istore H25 (L' := #[.val (.int p1), .val (.int p2), .val (.int p3), .val (.int p4), .val (.int p5), .val (.int ka), .val (.int kb), .val (.int b2), .val (.int b4), .val (.int r2j5), .val (.ref b6), .val (.ref b15), .val (.int ((XT.ushr p5 (3 : Int32)) &&& (3 : Int32))), .val (.int b49)]) rfl at_131 rfl ?_
            refine o_aload H25 rfl rfl at_133 rfl ?_
            refine o_aload H25 rfl rfl at_135 rfl ?_
            refine o_virtual H25 [(.ref b15)] [] (rm5_T l Z a0 hw b6 b15 (own_st s0 s1 s2 s3 s4 ka) (nar .boolean b2) p3 (own_st s0 s1 s2 s3 s4 kb) (nar .boolean b4) r2j5 h25 n0 H25.le f27 f28 f29 f30 f31 F25_0 F25_1 F25_2) f27 (w39 hw) (w40 hw) (o_nf (w42 hw)) (w42 hw) (w41 hw) (w3 hw) (w43 hw) (by decide) (lenOf pd5 rfl) rfl rfl (by decide) (Nat.le_of_ble_eq_true rfl) (by decide) (by decide) at_137 rfl (fun _ q => q) oSt.tt ?_
            intro T50 v50 h50 H50 q50
            obtain ⟨rfl, rfl⟩ := q50
            show oG p e below s n0 _ _ _ _ (T50.setTop (mkF m 140 #[.val (.int p1), .val (.int p2), .val (.int p3), .val (.int p4), .val (.int p5), .val (.int ka), .val (.int kb), .val (.int b2), .val (.int b4), .val (.int r2j5), .val (.ref b6), .val (.ref b15), .val (.int ((XT.ushr p5 (3 : Int32)) &&& (3 : Int32))), .val (.int b49)] [(.int (own_eq (own_st s0 s1 s2 s3 s4 ka) (nar .boolean b2) p3 (own_st s0 s1 s2 s3 s4 kb) (nar .boolean b4) r2j5))]))
            refine o_iload H50 rfl at_140 rfl ?_
            refine o_icmp_f H50 at_142 (XT.ii_ne_f (by rw [own_law HD r_ka r_kb eb2 eb4]; exact eb49.symm)) rfl ?_
            refine o_aload H50 rfl rfl at_145 rfl ?_
            refine o_aload H50 rfl rfl at_147 rfl ?_
            refine o_virtual H50 [(.ref b6)] [] (rm5_T l Z a0 hw b15 b6 (own_st s0 s1 s2 s3 s4 kb) (nar .boolean b4) r2j5 (own_st s0 s1 s2 s3 s4 ka) (nar .boolean b2) p3 h25 n0 H50.le f31 F25_0 F25_1 F25_2 f27 f28 f29 f30) f31 (w39 hw) (w40 hw) (o_nf (w42 hw)) (w42 hw) (w41 hw) (w3 hw) (w43 hw) (by decide) (lenOf pd5 rfl) rfl rfl (by decide) (Nat.le_of_ble_eq_true rfl) (by decide) (by decide) at_149 rfl (fun _ q => q) oSt.tt ?_
            intro T51 v51 h51 H51 q51
            obtain ⟨rfl, rfl⟩ := q51
            show oG p e below s n0 _ _ _ _ (T51.setTop (mkF m 152 #[.val (.int p1), .val (.int p2), .val (.int p3), .val (.int p4), .val (.int p5), .val (.int ka), .val (.int kb), .val (.int b2), .val (.int b4), .val (.int r2j5), .val (.ref b6), .val (.ref b15), .val (.int ((XT.ushr p5 (3 : Int32)) &&& (3 : Int32))), .val (.int b49)] [(.int (own_eq (own_st s0 s1 s2 s3 s4 kb) (nar .boolean b4) r2j5 (own_st s0 s1 s2 s3 s4 ka) (nar .boolean b2) p3))]))
            refine o_iload H51 rfl at_152 rfl ?_
            refine o_icmp_f H51 at_154 (XT.ii_ne_f (by rw [own_sym]; rw [own_law HD r_ka r_kb eb2 eb4]; exact eb49.symm)) rfl ?_
            refine o_iconst H51 (1 : Int32) rfl at_157 rfl ?_
            refine o_goto H51 at_158 (pt := 162) (by decide) (by decide) ?_
            exact o_nreturn H51 .boolean rfl (by simp) at_162 oSt.tt (fun _ q => q) (by decide) (by decide) rfl
          refine o_iload H25 rfl at_106 rfl ?_
          refine o_iload H25 rfl at_108 rfl ?_
          refine o_icmp_ne H25 at_110 (pt := 130) (by decide) (by decide) rfl ?_ ?_
          · intro c110_52
            refine o_iconst H25 (0 : Int32) rfl at_130 rfl ?_
            exact j48 (0 : Int32) (by first | (simp [c110_52]; done) | simp_all)
          · intro c110_52
            refine o_iload H25 rfl at_113 rfl ?_
            refine o_iload H25 rfl at_115 rfl ?_
            refine o_icmp_ne H25 at_117 (pt := 130) (by decide) (by decide) rfl ?_ ?_
            · intro c117_53
              refine o_iconst H25 (0 : Int32) rfl at_130 rfl ?_
              exact j48 (0 : Int32) (by first | (simp [c110_52, c117_53]; done) | simp_all)
            · intro c117_53
              refine o_iloadN H25 rfl at_120 rfl ?_
              refine o_iload H25 rfl at_121 rfl ?_
              refine o_icmp_ne H25 at_123 (pt := 130) (by decide) (by decide) rfl ?_ ?_
              · intro c123_54
                refine o_iconst H25 (0 : Int32) rfl at_130 rfl ?_
                exact j48 (0 : Int32) (by first | (simp [c110_52, c117_53, c123_54]; done) | simp_all)
              · intro c123_54
                refine o_iconst H25 (1 : Int32) rfl at_126 rfl ?_
                refine o_goto H25 at_127 (pt := 131) (by decide) (by decide) ?_
                exact j48 (1 : Int32) (by first | (simp [c110_52, c117_53, c123_54]; done) | simp_all)
      refine o_iload H rfl at_44 rfl ?_
      refine o_iconst H (4 : Int32) rfl at_46 rfl ?_
      refine o_iand H at_47 rfl ?_
      refine o_if_eq H at_48 (pt := 55) (by decide) (by decide) rfl ?_ ?_
      · intro c48_55
        refine o_iloadN H rfl at_55 rfl ?_
        exact j5 p4 
      · intro c48_55
        refine o_iloadN H rfl at_51 rfl ?_
        refine o_goto H at_52 (pt := 56) (by decide) (by decide) ?_
        exact j5 p3 
    refine o_iload H rfl at_30 rfl ?_
    refine o_iconst H (2 : Int32) rfl at_32 rfl ?_
    refine o_iand H at_33 rfl ?_
    refine o_if_eq H at_34 (pt := 41) (by decide) (by decide) rfl ?_ ?_
    · intro c34_56
      refine o_iconst H (0 : Int32) rfl at_41 rfl ?_
      exact j3 (0 : Int32) (by simp [c34_56])
    · intro c34_56
      refine o_iconst H (1 : Int32) rfl at_37 rfl ?_
      refine o_goto H at_38 (pt := 42) (by decide) (by decide) ?_
      exact j3 (1 : Int32) (by simp [c34_56])
  refine o_iload H rfl at_16 rfl ?_
  refine o_iconst H (1 : Int32) rfl at_18 rfl ?_
  refine o_iand H at_19 rfl ?_
  refine o_if_eq H at_20 (pt := 27) (by decide) (by decide) rfl ?_ ?_
  · intro c20_57
    refine o_iconst H (0 : Int32) rfl at_27 rfl ?_
    exact j1 (0 : Int32) (by simp [c20_57])
  · intro c20_57
    refine o_iconst H (1 : Int32) rfl at_23 rfl ?_
    refine o_goto H at_24 (pt := 28) (by decide) (by decide) ?_
    exact j1 (1 : Int32) (by simp [c20_57])
set_option maxRecDepth 65536 in
set_option maxHeartbeats 40000000 in
theorem comes_1 {Post : Tables → Env → Array Value → State → Outcome → State → Prop} (hpost : ∀ tb e args s v u, (limb_1_1.after args s (.returned v) u = true ∧ limb_1_2.after args s (.returned v) u = true ∧ True) → ReturnedEndW s (.returned v) u (Jvm.fieldLocs frame_1_writes args s ++ Jvm.arrayLocs frame_1_arrays args s ++ Jvm.staticLocs frame_1_statics s) 16 1152 → Post tb e args s (.returned v) u) :
    ArmFor flags0 classFile x code maxLocals ret World_1 tables_1 room_1 Calls_1 rest_1 Pre_1 Post := by
  intro l hfl _ _ p e ha hc hk s m args below hf hA hF happ hP
  obtain ⟨hcalls, hrest, hpre⟩ := hP
  obtain ⟨-, -, -, hnamed, -, -, -, hat⟩ := (Spec.applies_iff hf).mp happ
  obtain ⟨hg, hn⟩ := and_e (Cond.before_iff.mp (show (Jvm.Cond.and given_1 narrow_1).before args s = true from hpre))
  obtain ⟨g0, gs0⟩ := and_e hg
  obtain ⟨a0, gs1⟩ := and_e gs0
  obtain ⟨a1, gs2⟩ := and_e gs1
  obtain ⟨a2, gs3⟩ := and_e gs2
  obtain ⟨a3, gs4⟩ := and_e gs3
  have a4 := gs4
  obtain ⟨w0, w1, w2, w3, w4, rfl⟩ : ∃ w0 w1 w2 w3 w4 : Value, args = #[w0, w1, w2, w3, w4] := by
    have hs : args.size = 5 := by simpa [Cond.value, given_1] using g0
    obtain ⟨L⟩ := args
    match L, hs with
    | [w0, w1, w2, w3, w4], _ => exact ⟨w0, w1, w2, w3, w4, rfl⟩
  have hw := fun d (hd : d ∈ tables_1) => atoms_spec (ws := Jvm.Cond.code x code maxLocals ret :: tables_1) hat d (List.mem_cons_of_mem _ hd)
  have hfit : Fit s := fun {y c} hc i hi => by
    obtain ⟨ha, rfl⟩ := Array.getElem?_eq_some_iff.mp hc
    have q := List.all_eq_true.mp ((Array.all_eq_true_iff_forall_mem.mp hF) _ (Array.getElem_mem ha)) i (List.mem_range.mpr hi)
    simpa [Array.getElem?_eq_getElem hi] using q
  obtain ⟨i0, e0⟩ := is_v a0
  obtain rfl : w0 = (.int i0) := Option.some.inj e0
  obtain ⟨i1, e1⟩ := is_v a1
  obtain rfl : w1 = (.int i1) := Option.some.inj e1
  obtain ⟨i2, e2⟩ := is_v a2
  obtain rfl : w2 = (.int i2) := Option.some.inj e2
  obtain ⟨i3, e3⟩ := is_v a3
  obtain rfl : w3 = (.int i3) := Option.some.inj e3
  obtain ⟨i4, e4⟩ := is_v a4
  obtain rfl : w4 = (.int i4) := Option.some.inj e4
  obtain ⟨hsets, hown0⟩ := atoms_of _ (rest_1_c_eq ▸ (show rest_1_c.before _ s = true from hrest))
  have k3 := eqv_i (Term.int_eval 127) (Cond.before_iff.mp (hsets _ (List.mem_of_getElem? (i := 3) rfl)))
  have S1 : Sta s s.heap "java/lang/Integer$IntegerCache" "high" "I" (.int 127) := Sta.start k3 (Or.inl (hsets _ (List.mem_of_getElem? (i := 1) rfl)))
  obtain ⟨ca, k4⟩ := arr_v (Cond.before_iff.mp (hsets _ (List.mem_of_getElem? (i := 4) rfl)))
  have S2 : Sta s s.heap "java/lang/Integer$IntegerCache" "cache" "[Ljava/lang/Integer;" (.ref ca) := Sta.start k4 (Or.inr ⟨hw _ (List.mem_of_getElem? (i := 57) rfl), (hsets _ (List.mem_of_getElem? (i := 2) rfl))⟩)
  obtain ⟨cl, AC⟩ := Arr.start k4 (Cond.before_iff.mp (hsets _ (List.mem_of_getElem? (i := 4) rfl)))
  have k6 := eqv_i (Term.int_eval 256) (Cond.before_iff.mp (hsets _ (List.mem_of_getElem? (i := 6) rfl)))
  have hall := Cond.before_iff.mp (hsets _ (List.mem_of_getElem? (i := 7) rfl))
  have hsz : 256 ≤ cl.slots.size := by
    obtain ⟨ca', cl', e1, e2, e3⟩ := Term.length_spec k6
    cases k4.symm.trans e1
    cases (AC.fin (Vm.Alike.refl _)).symm.trans e2
    have e4 : (256 : Int32) = Int32.ofNat cl.slots.size := by injection e3
    apply Nat.le_of_not_lt; intro hlt
    have e5 := congrArg Int32.toInt e4
    rw [o_ofNat (by omega)] at e5
    have e6 : (256 : Int32).toInt = 256 := rfl
    omega
  have BX : ∀ j : Int32, ¬ j < 0 → j < 256 → ¬ (j < 0 ∨ cl.slots.size ≤ j.toNatClampNeg) ∧ ∃ b, cl.slots[j.toNatClampNeg]? = some (.ref b) ∧ Exa s s.heap b "java/lang/Integer" := by
    intro j h1 h2
    have hin : ¬ (j < 0 ∨ cl.slots.size ≤ j.toNatClampNeg) := by
      rintro (q | q)
      · exact h1 q
      · rw [n_lt] at h2; have e6 : (256 : Int32).toInt = 256 := rfl; simp only [Int32.toNatClampNeg] at q; omega
    obtain ⟨u1, u2⟩ := and_e (Cond.all_elim k4 (AC.fin (Vm.Alike.refl _)) hall j.toNatClampNeg (Nat.lt_of_not_le fun x => hin (Or.inr x)))
    obtain ⟨box, eb⟩ := exa_v u1
    exact ⟨hin, box, (elem_f (by simpa [Term.eval] using k4) (idx_at h1) (AC.fin (Vm.Alike.refl _)) h1).symm.trans eb, exa_at eb u1⟩
  obtain ⟨nx0, m0⟩ := and_e hn
  obtain ⟨nx3, m1⟩ := and_e m0
  obtain ⟨no0, m2⟩ := and_e m1
  obtain ⟨no3, m3⟩ := and_e m2
  obtain ⟨nx4, m4⟩ := and_e m3
  obtain ⟨no4, m5⟩ := and_e m4
  obtain ⟨nx2, m6⟩ := and_e m5
  obtain ⟨nx1, m7⟩ := and_e m6
  obtain ⟨no2, m8⟩ := and_e m7
  have no1 := m8
  obtain ⟨s0, v0⟩ := exa_v nx0
  have X0 := exa_at v0 nx0
  have Y0 : Sta s s.heap "com/example/bare_triage/baretriage/snapshot/ActivityState" "VISIBLE" "Lcom/example/bare_triage/baretriage/snapshot/ActivityState;" (.ref s0) := Sta.start v0 (Or.inr ⟨w9 hw, w10 hw⟩)
  have O0 : Fld s s.heap s0 "java/lang/Enum" "ordinal" "I" (.int 0) := Fld.start ((fld_at v0).symm.trans (eqv_i (Term.int_eval 0) no0))
  obtain ⟨s1, v1⟩ := exa_v nx1
  have X1 := exa_at v1 nx1
  have Y1 : Sta s s.heap "com/example/bare_triage/baretriage/snapshot/ActivityState" "PAUSING" "Lcom/example/bare_triage/baretriage/snapshot/ActivityState;" (.ref s1) := Sta.start v1 (Or.inr ⟨w9 hw, w51 hw⟩)
  have O1 : Fld s s.heap s1 "java/lang/Enum" "ordinal" "I" (.int 1) := Fld.start ((fld_at v1).symm.trans (eqv_i (Term.int_eval 1) no1))
  obtain ⟨s2, v2⟩ := exa_v nx2
  have X2 := exa_at v2 nx2
  have Y2 : Sta s s.heap "com/example/bare_triage/baretriage/snapshot/ActivityState" "PAUSED" "Lcom/example/bare_triage/baretriage/snapshot/ActivityState;" (.ref s2) := Sta.start v2 (Or.inr ⟨w9 hw, w49 hw⟩)
  have O2 : Fld s s.heap s2 "java/lang/Enum" "ordinal" "I" (.int 2) := Fld.start ((fld_at v2).symm.trans (eqv_i (Term.int_eval 2) no2))
  obtain ⟨s3, v3⟩ := exa_v nx3
  have X3 := exa_at v3 nx3
  have Y3 : Sta s s.heap "com/example/bare_triage/baretriage/snapshot/ActivityState" "STOPPING" "Lcom/example/bare_triage/baretriage/snapshot/ActivityState;" (.ref s3) := Sta.start v3 (Or.inr ⟨w9 hw, w38 hw⟩)
  have O3 : Fld s s.heap s3 "java/lang/Enum" "ordinal" "I" (.int 3) := Fld.start ((fld_at v3).symm.trans (eqv_i (Term.int_eval 3) no3))
  obtain ⟨s4, v4⟩ := exa_v nx4
  have X4 := exa_at v4 nx4
  have Y4 : Sta s s.heap "com/example/bare_triage/baretriage/snapshot/ActivityState" "STOPPED" "Lcom/example/bare_triage/baretriage/snapshot/ActivityState;" (.ref s4) := Sta.start v4 (Or.inr ⟨w9 hw, w47 hw⟩)
  have O4 : Fld s s.heap s4 "java/lang/Enum" "ordinal" "I" (.int 4) := Fld.start ((fld_at v4).symm.trans (eqv_i (Term.int_eval 4) no4))
  have EX : ∀ k : Int32, Exa s s.heap (own_st s0 s1 s2 s3 s4 k) "com/example/bare_triage/baretriage/snapshot/ActivityState" := by
    intro k; simp only [own_st]; (repeat' split) <;> assumption
  obtain ⟨n, o, h1, h2, h3, _, L, rfl, ⟨rfl, N, -⟩, hq⟩ := rm0 l s _ hw i0 i1 i2 i3 i4 ca cl s0 s1 s2 s3 s4 s.heap s.heap.size (Nat.le_refl _) S1 S2 AC BX ⟨Nat.le_refl _, fun _ _ q => q⟩ Y0 Y1 Y2 Y3 Y4 EX (own_inj (O0.ne O1 (by decide)) (O0.ne O2 (by decide)) (O0.ne O3 (by decide)) (O0.ne O4 (by decide)) (O1.ne O2 (by decide)) (O1.ne O3 (by decide)) (O1.ne O4 (by decide)) (O2.ne O3 (by decide)) (O2.ne O4 (by decide)) (O3.ne O4 (by decide))) tables_1 p e ha hc hk s m _ below hf ((Spec.applies_iff_loose hf).mp happ).1 ⟨rfl, State.Warmed39.refl s, rfl, trivial⟩ trivial
  refine ⟨n, _, h1, h2, h3, hpost _ _ _ _ _ _ ⟨Cond.after_iff.mpr rfl, Cond.after_iff.mpr (eq_i res_at (Term.int_eval (1)) rfl), trivial⟩ ⟨hq.1, hq.2.1, hq.2.2.1, (hq.2.2.2.sift fun y hy => Or.inr (N y hy)).mono (by decide) (by decide)⟩⟩
theorem main_1_1 : Claimed_1_1 := comes_1 fun _ _ _ _ _ _ h hF => ⟨h.1, hF⟩
theorem main_1_2 : Claimed_1_2 := comes_1 fun _ _ _ _ _ _ h hF => ⟨h.2.1, hF⟩
end Jvm.Pilot.@@N@@
namespace Jvm.Pilot.@@N@@
open Jvm Jvm.ClassFile Sem Op Lib Jvm.Free Jvm.Stand Jvm.Pilot.@@N@@.Jvm.D
/-! MADE BY PROGRAM (witnessworld.py) out of the Statement's table words and the real class files: 21 classes; the members and pool entries that the words name. The judged class is class 1, her method 2. -/
namespace start1
open Jvm.ClassFile
def u (s : String) : CpInfo := .utf8 (stringToUtf16 s)
/-- a pool by its gaps: so many unusable entries, then the entry; so many at the end -/
def gap : Nat → List CpInfo → List CpInfo
  | 0, r => r
  | n + 1, r => .unusable :: gap n r
def poolList (es : List (Nat × CpInfo)) (last : Nat) : List CpInfo := es.foldr (fun e r => gap e.1 (e.2 :: r)) (gap last [])
def pool (es : List (Nat × CpInfo)) (last : Nat) : Array CpInfo := ⟨poolList es last⟩
def fileOf (pool : Array CpInfo) (this : Nat) (attrs : Array Attribute := #[]) (ms : Array MethodInfo := #[]) (fl : Nat := 33) (sup : Nat := 0) (ifs : Array Nat := #[]) (fds : Array FieldInfo := #[]) : ClassFile where
  minorVersion := 0
  majorVersion := 65
  constantPool := pool
  accessFlags := fl
  thisClass := this
  superClass := sup
  interfaces := ifs
  fields := fds
  methods := ms
  attributes := attrs
def plain (name : String) (sup : Option ClassId) : Class where
  name := name
  kind := .ordinary
  loader := none
  accessFlags := 33
  super := sup
  interfaces := #[]
  cf := none
  fields := #[]
  methods := #[]
  instanceTypes := #[]
  staticTypes := #[]
  resolved := #[]
  callSites := []
  init := .initialized
  statics := none
  mirror := none

def pool0 : Array CpInfo := pool [(5, u "<init>"), (0, u "()V"), (1, .class_ 10), (1, u "java/lang/Object")] 113

def k0c0 : Code := { maxStack := 0, maxLocals := 1, code := object_method_1_code, exceptionTable := #[], attributes := #[] }
def k0m0 : Method := { name := "<init>", desc := "()V", sig := { parameters := [], returnType := none }, accessFlags := 1, code := some k0c0 }
/-- java/lang/Object -/
def k0 : Class := { plain "java/lang/Object" none with
  accessFlags := 33
  interfaces := #[]
  cf := some (fileOf pool0 8 #[] #[{ accessFlags := 1, nameIndex := 5, descriptorIndex := 6, attributes := #[] }] 33 0 #[] #[])
  fields := #[]
  methods := #[k0m0]
  instanceTypes := #[]
  staticTypes := #[]
  resolved := Array.replicate 124 none
  statics := none }

def pool1 : Array CpInfo := pool [(2, .class_ 4), (1, u "java/lang/Object"), (0, u "<init>"), (0, u "()V"), (0, .fieldref 8 9), (0, .class_ 10), (0, .nameAndType 11 12), (0, u "com/example/bare_triage/baretriage/snapshot/ActivityState"), (0, u "VISIBLE"), (0, u "Lcom/example/bare_triage/baretriage/snapshot/ActivityState;"), (0, .fieldref 8 14), (0, .nameAndType 15 12), (0, u "PAUSING"), (0, .fieldref 8 17), (0, .nameAndType 18 12), (0, u "PAUSED"), (0, .fieldref 8 20), (0, .nameAndType 21 12), (0, u "STOPPING"), (0, .fieldref 8 23), (0, .nameAndType 24 12), (0, u "STOPPED"), (0, .integer 2147483647), (0, .class_ 27), (0, u "com/example/bare_triage/baretriage/snapshot/ActivityInfo"), (0, .methodref 29 30), (0, .class_ 31), (0, .nameAndType 32 33), (0, u "com/example/bare_triage/baretriage/snapshot/ActivityInfoEqualsPinLaw"), (0, u "state"), (0, u "(I)Lcom/example/bare_triage/baretriage/snapshot/ActivityState;"), (0, .methodref 26 35), (0, .nameAndType 5 36), (0, u "(Lcom/example/bare_triage/baretriage/snapshot/ActivityState;ZI)V"), (0, .methodref 26 38), (0, .nameAndType 39 40), (0, u "equals"), (0, u "(Ljava/lang/Object;)Z"), (0, .methodref 42 43), (0, .class_ 44), (0, .nameAndType 45 46), (0, u "java/lang/Integer"), (0, u "valueOf"), (0, u "(I)Ljava/lang/Integer;"), (3, u "law"), (0, u "(IIIII)Z")] 2

def k1m0 : Method := { name := "<init>", desc := "()V", sig := { parameters := [], returnType := none }, accessFlags := 1, code := none }
def k1c1 : Code := { maxStack := 2, maxLocals := 1, code := method_2_code, exceptionTable := #[], attributes := #[] }
def k1m1 : Method := { name := "state", desc := "(I)Lcom/example/bare_triage/baretriage/snapshot/ActivityState;", sig := { parameters := [.int], returnType := some (.object "com/example/bare_triage/baretriage/snapshot/ActivityState") }, accessFlags := 10, code := some k1c1 }
def k1c2 : Code := { maxStack := 5, maxLocals := 14, code := code, exceptionTable := #[], attributes := #[] }
def k1m2 : Method := { name := "law", desc := "(IIIII)Z", sig := { parameters := [.int, .int, .int, .int, .int], returnType := some .boolean }, accessFlags := 9, code := some k1c2 }
/-- com/example/bare_triage/baretriage/snapshot/ActivityInfoEqualsPinLaw -/
def k1 : Class := { plain "com/example/bare_triage/baretriage/snapshot/ActivityInfoEqualsPinLaw" (some 0) with
  accessFlags := 49
  interfaces := #[]
  cf := some (fileOf pool1 29 #[] #[{ accessFlags := 1, nameIndex := 5, descriptorIndex := 6, attributes := #[] }, { accessFlags := 10, nameIndex := 32, descriptorIndex := 33, attributes := #[] }, { accessFlags := 9, nameIndex := 50, descriptorIndex := 51, attributes := #[] }] 49 2 #[] #[])
  fields := #[]
  methods := #[k1m0, k1m1, k1m2]
  instanceTypes := #[]
  staticTypes := #[]
  resolved := Array.replicate 54 none
  statics := none }

def pool2 : Array CpInfo := pool [(1, .methodref 2 3), (0, .class_ 4), (0, .nameAndType 5 6), (0, u "java/lang/Object"), (0, u "<init>"), (0, u "()V"), (0, .string 8), (0, u "state"), (0, .methodref 10 11), (0, .class_ 12), (0, .nameAndType 13 14), (0, u "java/util/Objects"), (0, u "requireNonNull"), (0, u "(Ljava/lang/Object;Ljava/lang/String;)Ljava/lang/Object;"), (0, .class_ 16), (0, u "com/example/bare_triage/baretriage/snapshot/ActivityState"), (0, .fieldref 18 19), (0, .class_ 20), (0, .nameAndType 8 21), (0, u "com/example/bare_triage/baretriage/snapshot/ActivityInfo"), (0, u "Lcom/example/bare_triage/baretriage/snapshot/ActivityState;"), (0, .fieldref 18 23), (0, .nameAndType 24 25), (0, u "finishing"), (0, u "Z"), (0, .fieldref 18 27), (0, .nameAndType 28 29), (0, u "layerRank"), (0, u "I"), (15, u "(Lcom/example/bare_triage/baretriage/snapshot/ActivityState;ZI)V"), (6, u "equals"), (0, u "(Ljava/lang/Object;)Z")] 4

def k2c0 : Code := { maxStack := 3, maxLocals := 4, code := prog_31_method_1_code, exceptionTable := #[], attributes := #[] }
def k2m0 : Method := { name := "<init>", desc := "(Lcom/example/bare_triage/baretriage/snapshot/ActivityState;ZI)V", sig := { parameters := [(.object "com/example/bare_triage/baretriage/snapshot/ActivityState"), .boolean, .int], returnType := none }, accessFlags := 1, code := some k2c0 }
def k2c1 : Code := { maxStack := 2, maxLocals := 3, code := prog_31_method_5_code, exceptionTable := #[], attributes := #[] }
def k2m1 : Method := { name := "equals", desc := "(Ljava/lang/Object;)Z", sig := { parameters := [(.object "java/lang/Object")], returnType := some .boolean }, accessFlags := 1, code := some k2c1 }
/-- com/example/bare_triage/baretriage/snapshot/ActivityInfo -/
def k2 : Class := { plain "com/example/bare_triage/baretriage/snapshot/ActivityInfo" (some 0) with
  accessFlags := 49
  interfaces := #[]
  cf := some (fileOf pool2 18 #[] #[{ accessFlags := 1, nameIndex := 5, descriptorIndex := 45, attributes := #[] }, { accessFlags := 1, nameIndex := 52, descriptorIndex := 53, attributes := #[] }] 49 2 #[] #[{ accessFlags := 18, nameIndex := 8, descriptorIndex := 21, attributes := #[] }, { accessFlags := 18, nameIndex := 24, descriptorIndex := 25, attributes := #[] }, { accessFlags := 18, nameIndex := 28, descriptorIndex := 29, attributes := #[] }])
  fields := #[{ name := "state", type := (.object "com/example/bare_triage/baretriage/snapshot/ActivityState"), accessFlags := 18, slot := 0, constantValue := 0 }, { name := "finishing", type := .boolean, accessFlags := 18, slot := 1, constantValue := 0 }, { name := "layerRank", type := .int, accessFlags := 18, slot := 2, constantValue := 0 }]
  methods := #[k2m0, k2m1]
  instanceTypes := #[(.object "com/example/bare_triage/baretriage/snapshot/ActivityState"), .boolean, .int]
  staticTypes := #[]
  resolved := Array.replicate 58 none
  statics := none }

def pool3 : Array CpInfo := pool [(1, .class_ 2), (0, u "java/lang/constant/Constable"), (0, .class_ 4), (0, u "java/lang/Object")] 6

/-- java/lang/constant/Constable -/
def k3 : Class := { plain "java/lang/constant/Constable" (some 0) with
  accessFlags := 1537
  interfaces := #[]
  cf := some (fileOf pool3 1 #[] #[] 1537 3 #[] #[])
  fields := #[]
  methods := #[]
  instanceTypes := #[]
  staticTypes := #[]
  resolved := Array.replicate 11 none
  statics := none }

def pool4 : Array CpInfo := pool [(1, .class_ 2), (0, u "java/lang/Comparable"), (0, .class_ 4), (0, u "java/lang/Object")] 7

/-- java/lang/Comparable -/
def k4 : Class := { plain "java/lang/Comparable" (some 0) with
  accessFlags := 1537
  interfaces := #[]
  cf := some (fileOf pool4 1 #[] #[] 1537 3 #[] #[])
  fields := #[]
  methods := #[]
  instanceTypes := #[]
  staticTypes := #[]
  resolved := Array.replicate 12 none
  statics := none }

def pool5 : Array CpInfo := pool [(1, .class_ 2), (0, u "java/io/Serializable"), (0, .class_ 4), (0, u "java/lang/Object")] 2

/-- java/io/Serializable -/
def k5 : Class := { plain "java/io/Serializable" (some 0) with
  accessFlags := 1537
  interfaces := #[]
  cf := some (fileOf pool5 1 #[] #[] 1537 3 #[] #[])
  fields := #[]
  methods := #[]
  instanceTypes := #[]
  staticTypes := #[]
  resolved := Array.replicate 7 none
  statics := none }

def pool6 : Array CpInfo := pool [(2, .class_ 4), (1, u "java/lang/Enum"), (0, u "name"), (0, u "Ljava/lang/String;"), (2, u "ordinal"), (0, u "I"), (1, .class_ 14), (1, u "java/lang/Object"), (4, u "hash"), (86, .class_ 108), (1, u "java/lang/Enum$EnumDesc"), (2, .class_ 112), (0, u "java/lang/constant/Constable"), (0, .class_ 114), (0, u "java/lang/Comparable"), (0, .class_ 116), (0, u "java/io/Serializable")] 87

/-- java/lang/Enum -/
def k6 : Class := { plain "java/lang/Enum" (some 0) with
  accessFlags := 1057
  interfaces := #[3, 4, 5]
  cf := some (fileOf pool6 2 #[.nestMembers #[106]] #[] 1057 12 #[111, 113, 115] #[{ accessFlags := 18, nameIndex := 5, descriptorIndex := 6, attributes := #[] }, { accessFlags := 18, nameIndex := 9, descriptorIndex := 10, attributes := #[] }, { accessFlags := 2, nameIndex := 19, descriptorIndex := 10, attributes := #[] }])
  fields := #[{ name := "name", type := (.object "java/lang/String"), accessFlags := 18, slot := 0, constantValue := 0 }, { name := "ordinal", type := .int, accessFlags := 18, slot := 1, constantValue := 0 }, { name := "hash", type := .int, accessFlags := 2, slot := 2, constantValue := 0 }]
  methods := #[]
  instanceTypes := #[(.object "java/lang/String"), .int, .int]
  staticTypes := #[]
  resolved := Array.replicate 204 none
  statics := none }

def pool7 : Array CpInfo := pool [(1, .class_ 2), (0, u "com/example/bare_triage/baretriage/snapshot/ActivityState"), (2, u "VISIBLE"), (0, u "Lcom/example/bare_triage/baretriage/snapshot/ActivityState;"), (2, u "PAUSING"), (2, u "PAUSED"), (2, u "STOPPING"), (2, u "STOPPED"), (2, u "$VALUES"), (0, u "[Lcom/example/bare_triage/baretriage/snapshot/ActivityState;"), (6, .class_ 31), (1, u "java/lang/Enum"), (8, u "label"), (0, u "Ljava/lang/String;")] 35

/-- com/example/bare_triage/baretriage/snapshot/ActivityState -/
def k7 : Class := { plain "com/example/bare_triage/baretriage/snapshot/ActivityState" (some 6) with
  accessFlags := 16433
  interfaces := #[]
  cf := some (fileOf pool7 1 #[] #[] 16433 29 #[] #[{ accessFlags := 16409, nameIndex := 5, descriptorIndex := 6, attributes := #[] }, { accessFlags := 16409, nameIndex := 9, descriptorIndex := 6, attributes := #[] }, { accessFlags := 16409, nameIndex := 12, descriptorIndex := 6, attributes := #[] }, { accessFlags := 16409, nameIndex := 15, descriptorIndex := 6, attributes := #[] }, { accessFlags := 16409, nameIndex := 18, descriptorIndex := 6, attributes := #[] }, { accessFlags := 18, nameIndex := 40, descriptorIndex := 41, attributes := #[] }, { accessFlags := 4122, nameIndex := 21, descriptorIndex := 22, attributes := #[] }])
  fields := #[{ name := "VISIBLE", type := (.object "com/example/bare_triage/baretriage/snapshot/ActivityState"), accessFlags := 16409, slot := 0, constantValue := 0 }, { name := "PAUSING", type := (.object "com/example/bare_triage/baretriage/snapshot/ActivityState"), accessFlags := 16409, slot := 1, constantValue := 0 }, { name := "PAUSED", type := (.object "com/example/bare_triage/baretriage/snapshot/ActivityState"), accessFlags := 16409, slot := 2, constantValue := 0 }, { name := "STOPPING", type := (.object "com/example/bare_triage/baretriage/snapshot/ActivityState"), accessFlags := 16409, slot := 3, constantValue := 0 }, { name := "STOPPED", type := (.object "com/example/bare_triage/baretriage/snapshot/ActivityState"), accessFlags := 16409, slot := 4, constantValue := 0 }, { name := "label", type := (.object "java/lang/String"), accessFlags := 18, slot := 3, constantValue := 0 }, { name := "$VALUES", type := (.array (.object "com/example/bare_triage/baretriage/snapshot/ActivityState")), accessFlags := 4122, slot := 5, constantValue := 0 }]
  methods := #[]
  instanceTypes := #[(.object "java/lang/String"), .int, .int, (.object "java/lang/String")]
  staticTypes := #[(.object "com/example/bare_triage/baretriage/snapshot/ActivityState"), (.object "com/example/bare_triage/baretriage/snapshot/ActivityState"), (.object "com/example/bare_triage/baretriage/snapshot/ActivityState"), (.object "com/example/bare_triage/baretriage/snapshot/ActivityState"), (.object "com/example/bare_triage/baretriage/snapshot/ActivityState"), (.array (.object "com/example/bare_triage/baretriage/snapshot/ActivityState"))]
  resolved := Array.replicate 77 none
  statics := some 0 }

def pool8 : Array CpInfo := pool [(2, .class_ 4), (1, u "java/lang/CharSequence"), (42, .class_ 48), (0, u "java/lang/CharSequence$1CodePointIterator"), (10, .class_ 60), (0, u "java/lang/CharSequence$1CharIterator"), (5, .class_ 67), (0, u "java/lang/Object")] 63

/-- java/lang/CharSequence -/
def k8 : Class := { plain "java/lang/CharSequence" (some 0) with
  accessFlags := 1537
  interfaces := #[]
  cf := some (fileOf pool8 2 #[.nestMembers #[47, 59]] #[] 1537 66 #[] #[])
  fields := #[]
  methods := #[]
  instanceTypes := #[]
  staticTypes := #[]
  resolved := Array.replicate 131 none
  statics := none }

def pool9 : Array CpInfo := pool [(1, .class_ 2), (0, u "java/lang/constant/ConstantDesc"), (0, .class_ 4), (0, u "java/lang/Object")] 32

/-- java/lang/constant/ConstantDesc -/
def k9 : Class := { plain "java/lang/constant/ConstantDesc" (some 0) with
  accessFlags := 1537
  interfaces := #[]
  cf := some (fileOf pool9 1 #[] #[] 1537 3 #[] #[])
  fields := #[]
  methods := #[]
  instanceTypes := #[]
  staticTypes := #[]
  resolved := Array.replicate 37 none
  statics := none }

def pool10 : Array CpInfo := pool [(2, .class_ 4), (1, u "java/lang/Object"), (0, u "<init>"), (0, u "()V"), (3, .class_ 12), (1, u "java/lang/String"), (0, u "value"), (0, u "[B"), (2, u "coder"), (0, u "B"), (2, u "hash"), (0, u "I"), (2, u "hashIsZero"), (0, u "Z"), (13, u "COMPACT_STRINGS"), (534, .class_ 576), (0, u "java/lang/CharSequence"), (22, u "CASE_INSENSITIVE_ORDER"), (0, u "Ljava/util/Comparator;"), (500, u "serialPersistentFields"), (0, u "[Ljava/io/ObjectStreamField;"), (0, .class_ 1104), (0, u "java/lang/String$CaseInsensitiveComparator"), (1, .class_ 1107), (0, u "java/io/Serializable"), (0, .class_ 1109), (0, u "java/lang/Comparable"), (0, .class_ 1111), (0, u "java/lang/constant/Constable"), (0, .class_ 1113), (0, u "java/lang/constant/ConstantDesc"), (2, u "serialVersionUID"), (0, u "J"), (3, u "REPL"), (0, u "C"), (2, u "LATIN1"), (1, u "UTF16")] 323

def k10m0 : Method := { name := "<init>", desc := "()V", sig := { parameters := [], returnType := none }, accessFlags := 1, code := none }
/-- java/lang/String -/
def k10 : Class := { plain "java/lang/String" (some 0) with
  accessFlags := 49
  interfaces := #[5, 4, 8, 3, 9]
  cf := some (fileOf pool10 10 #[.nestMembers #[1103]] #[{ accessFlags := 1, nameIndex := 5, descriptorIndex := 6, attributes := #[] }] 49 2 #[1106, 1108, 575, 1110, 1112] #[{ accessFlags := 18, nameIndex := 13, descriptorIndex := 14, attributes := #[] }, { accessFlags := 18, nameIndex := 17, descriptorIndex := 18, attributes := #[] }, { accessFlags := 2, nameIndex := 21, descriptorIndex := 22, attributes := #[] }, { accessFlags := 2, nameIndex := 25, descriptorIndex := 26, attributes := #[] }, { accessFlags := 26, nameIndex := 1116, descriptorIndex := 1117, attributes := #[] }, { accessFlags := 24, nameIndex := 40, descriptorIndex := 26, attributes := #[] }, { accessFlags := 26, nameIndex := 1101, descriptorIndex := 1102, attributes := #[] }, { accessFlags := 26, nameIndex := 1121, descriptorIndex := 1122, attributes := #[] }, { accessFlags := 25, nameIndex := 599, descriptorIndex := 600, attributes := #[] }, { accessFlags := 24, nameIndex := 1125, descriptorIndex := 18, attributes := #[] }, { accessFlags := 24, nameIndex := 1127, descriptorIndex := 18, attributes := #[] }])
  fields := #[{ name := "value", type := (.array .byte), accessFlags := 18, slot := 0, constantValue := 0 }, { name := "coder", type := .byte, accessFlags := 18, slot := 1, constantValue := 0 }, { name := "hash", type := .int, accessFlags := 2, slot := 2, constantValue := 0 }, { name := "hashIsZero", type := .boolean, accessFlags := 2, slot := 3, constantValue := 0 }, { name := "serialVersionUID", type := .long, accessFlags := 26, slot := 0, constantValue := 0 }, { name := "COMPACT_STRINGS", type := .boolean, accessFlags := 24, slot := 1, constantValue := 0 }, { name := "serialPersistentFields", type := (.array (.object "java/io/ObjectStreamField")), accessFlags := 26, slot := 2, constantValue := 0 }, { name := "REPL", type := .char, accessFlags := 26, slot := 3, constantValue := 0 }, { name := "CASE_INSENSITIVE_ORDER", type := (.object "java/util/Comparator"), accessFlags := 25, slot := 4, constantValue := 0 }, { name := "LATIN1", type := .byte, accessFlags := 24, slot := 5, constantValue := 0 }, { name := "UTF16", type := .byte, accessFlags := 24, slot := 6, constantValue := 0 }]
  methods := #[k10m0]
  instanceTypes := #[(.array .byte), .byte, .int, .boolean]
  staticTypes := #[.long, .boolean, (.array (.object "java/io/ObjectStreamField")), .char, (.object "java/util/Comparator"), .byte, .byte]
  resolved := Array.replicate 1451 none
  statics := none }

def pool11 : Array CpInfo := pool [(2, .class_ 4), (1, u "java/lang/Object"), (0, u "<init>"), (0, u "()V"), (35, .class_ 44), (1, u "java/util/Objects"), (0, u "requireNonNull"), (48, u "(Ljava/lang/Object;Ljava/lang/String;)Ljava/lang/Object;")] 89

def k11m0 : Method := { name := "<init>", desc := "()V", sig := { parameters := [], returnType := none }, accessFlags := 2, code := none }
def k11c1 : Code := { maxStack := 3, maxLocals := 2, code := jdk_31_method_11_code, exceptionTable := #[], attributes := #[] }
def k11m1 : Method := { name := "requireNonNull", desc := "(Ljava/lang/Object;Ljava/lang/String;)Ljava/lang/Object;", sig := { parameters := [(.object "java/lang/Object"), (.object "java/lang/String")], returnType := some (.object "java/lang/Object") }, accessFlags := 9, code := some k11c1 }
/-- java/util/Objects -/
def k11 : Class := { plain "java/util/Objects" (some 0) with
  accessFlags := 49
  interfaces := #[]
  cf := some (fileOf pool11 42 #[] #[{ accessFlags := 2, nameIndex := 5, descriptorIndex := 6, attributes := #[] }, { accessFlags := 9, nameIndex := 45, descriptorIndex := 94, attributes := #[] }] 49 2 #[] #[])
  fields := #[]
  methods := #[k11m0, k11m1]
  instanceTypes := #[]
  staticTypes := #[]
  resolved := Array.replicate 184 none
  statics := none }

def pool12 : Array CpInfo := pool [(1, .methodref 2 3), (0, .class_ 4), (0, .nameAndType 5 6), (0, u "java/lang/Object"), (0, u "<init>"), (0, u "()V"), (1, .class_ 10), (1, u "java/lang/Number"), (2, .class_ 14), (0, u "java/io/Serializable"), (0, u "serialVersionUID"), (0, u "J")] 20

def k12c0 : Code := { maxStack := 1, maxLocals := 1, code := jdk_18_method_1_code, exceptionTable := #[], attributes := #[] }
def k12m0 : Method := { name := "<init>", desc := "()V", sig := { parameters := [], returnType := none }, accessFlags := 1, code := some k12c0 }
/-- java/lang/Number -/
def k12 : Class := { plain "java/lang/Number" (some 0) with
  accessFlags := 1057
  interfaces := #[5]
  cf := some (fileOf pool12 8 #[] #[{ accessFlags := 1, nameIndex := 5, descriptorIndex := 6, attributes := #[] }] 1057 2 #[13] #[{ accessFlags := 26, nameIndex := 15, descriptorIndex := 16, attributes := #[] }])
  fields := #[{ name := "serialVersionUID", type := .long, accessFlags := 26, slot := 0, constantValue := 0 }]
  methods := #[k12m0]
  instanceTypes := #[]
  staticTypes := #[.long]
  resolved := Array.replicate 37 none
  statics := none }

def pool13 : Array CpInfo := pool [(1, .class_ 2), (0, u "java/lang/Integer"), (16, u "digits"), (0, u "[C"), (46, u "<init>"), (17, u "DigitOnes"), (0, u "[B"), (2, u "DigitTens"), (10, .nameAndType 67 101), (0, u "()V"), (85, u "valueOf"), (0, u "(I)Ljava/lang/Integer;"), (0, .class_ 190), (0, u "java/lang/Integer$IntegerCache"), (0, .fieldref 189 192), (0, .nameAndType 193 194), (0, u "high"), (0, u "I"), (0, .fieldref 189 196), (0, .nameAndType 197 198), (0, u "cache"), (0, u "[Ljava/lang/Integer;"), (0, .methodref 1 200), (0, .nameAndType 67 201), (0, u "(I)V"), (0, .methodref 203 100), (0, .class_ 204), (0, u "java/lang/Number"), (0, .fieldref 1 206), (0, .nameAndType 207 194), (0, u "value"), (94, u "TYPE"), (0, u "Ljava/lang/Class;"), (0, .class_ 305), (0, u "java/lang/Comparable"), (0, .class_ 307), (0, u "java/lang/constant/Constable"), (0, .class_ 309), (0, u "java/lang/constant/ConstantDesc"), (0, u "MIN_VALUE"), (1, u "MAX_VALUE"), (3, u "SIZE"), (1, u "BYTES"), (1, u "serialVersionUID"), (0, u "J")] 131

def k13c0 : Code := { maxStack := 3, maxLocals := 1, code := jdk_33_method_22_code, exceptionTable := #[], attributes := #[] }
def k13m0 : Method := { name := "valueOf", desc := "(I)Ljava/lang/Integer;", sig := { parameters := [.int], returnType := some (.object "java/lang/Integer") }, accessFlags := 9, code := some k13c0 }
def k13c1 : Code := { maxStack := 2, maxLocals := 2, code := jdk_33_method_23_code, exceptionTable := #[], attributes := #[] }
def k13m1 : Method := { name := "<init>", desc := "(I)V", sig := { parameters := [.int], returnType := none }, accessFlags := 1, code := some k13c1 }
/-- java/lang/Integer -/
def k13 : Class := { plain "java/lang/Integer" (some 12) with
  accessFlags := 49
  interfaces := #[4, 3, 9]
  cf := some (fileOf pool13 1 #[.nestMembers #[189]] #[{ accessFlags := 9, nameIndex := 187, descriptorIndex := 188, attributes := #[] }, { accessFlags := 1, nameIndex := 67, descriptorIndex := 201, attributes := #[] }] 49 203 #[304, 306, 308] #[{ accessFlags := 25, nameIndex := 310, descriptorIndex := 194, attributes := #[] }, { accessFlags := 25, nameIndex := 312, descriptorIndex := 194, attributes := #[] }, { accessFlags := 25, nameIndex := 302, descriptorIndex := 303, attributes := #[] }, { accessFlags := 24, nameIndex := 19, descriptorIndex := 20, attributes := #[] }, { accessFlags := 24, nameIndex := 89, descriptorIndex := 86, attributes := #[] }, { accessFlags := 24, nameIndex := 85, descriptorIndex := 86, attributes := #[] }, { accessFlags := 18, nameIndex := 207, descriptorIndex := 194, attributes := #[] }, { accessFlags := 25, nameIndex := 316, descriptorIndex := 194, attributes := #[] }, { accessFlags := 25, nameIndex := 318, descriptorIndex := 194, attributes := #[] }, { accessFlags := 26, nameIndex := 320, descriptorIndex := 321, attributes := #[] }])
  fields := #[{ name := "MIN_VALUE", type := .int, accessFlags := 25, slot := 0, constantValue := 0 }, { name := "MAX_VALUE", type := .int, accessFlags := 25, slot := 1, constantValue := 0 }, { name := "TYPE", type := (.object "java/lang/Class"), accessFlags := 25, slot := 2, constantValue := 0 }, { name := "digits", type := (.array .char), accessFlags := 24, slot := 3, constantValue := 0 }, { name := "DigitTens", type := (.array .byte), accessFlags := 24, slot := 4, constantValue := 0 }, { name := "DigitOnes", type := (.array .byte), accessFlags := 24, slot := 5, constantValue := 0 }, { name := "value", type := .int, accessFlags := 18, slot := 0, constantValue := 0 }, { name := "SIZE", type := .int, accessFlags := 25, slot := 6, constantValue := 0 }, { name := "BYTES", type := .int, accessFlags := 25, slot := 7, constantValue := 0 }, { name := "serialVersionUID", type := .long, accessFlags := 26, slot := 8, constantValue := 0 }]
  methods := #[k13m0, k13m1]
  instanceTypes := #[.int]
  staticTypes := #[.int, .int, (.object "java/lang/Class"), (.array .char), (.array .byte), (.array .byte), .int, .int, .long]
  resolved := Array.replicate 453 none
  statics := none }

def pool14 : Array CpInfo := pool [(2, .class_ 4), (1, u "java/lang/Object"), (0, u "<init>"), (0, u "()V"), (0, .class_ 8), (0, u "java/lang/Integer"), (7, .class_ 18), (1, u "java/lang/Integer$IntegerCache"), (0, u "$assertionsDisabled"), (0, u "Z"), (26, u "high"), (0, u "I"), (8, u "archivedCache"), (0, u "[Ljava/lang/Integer;"), (12, u "cache"), (0, u "low")] 27

def k14m0 : Method := { name := "<init>", desc := "()V", sig := { parameters := [], returnType := none }, accessFlags := 2, code := none }
/-- java/lang/Integer$IntegerCache -/
def k14 : Class := { plain "java/lang/Integer$IntegerCache" (some 0) with
  accessFlags := 48
  interfaces := #[]
  cf := some (fileOf pool14 16 #[.nestHost 7] #[{ accessFlags := 2, nameIndex := 5, descriptorIndex := 6, attributes := #[] }] 48 2 #[] #[{ accessFlags := 24, nameIndex := 72, descriptorIndex := 48, attributes := #[] }, { accessFlags := 24, nameIndex := 47, descriptorIndex := 48, attributes := #[] }, { accessFlags := 24, nameIndex := 71, descriptorIndex := 58, attributes := #[] }, { accessFlags := 8, nameIndex := 57, descriptorIndex := 58, attributes := #[] }, { accessFlags := 4120, nameIndex := 19, descriptorIndex := 20, attributes := #[] }])
  fields := #[{ name := "low", type := .int, accessFlags := 24, slot := 0, constantValue := 0 }, { name := "high", type := .int, accessFlags := 24, slot := 1, constantValue := 0 }, { name := "cache", type := (.array (.object "java/lang/Integer")), accessFlags := 24, slot := 2, constantValue := 0 }, { name := "archivedCache", type := (.array (.object "java/lang/Integer")), accessFlags := 8, slot := 3, constantValue := 0 }, { name := "$assertionsDisabled", type := .boolean, accessFlags := 4120, slot := 4, constantValue := 0 }]
  methods := #[k14m0]
  instanceTypes := #[]
  staticTypes := #[.int, .int, (.array (.object "java/lang/Integer")), (.array (.object "java/lang/Integer")), .boolean]
  resolved := Array.replicate 100 none
  statics := some 1 }

def pool15 : Array CpInfo := pool [(1, u "java/lang/Cloneable"), (0, .class_ 1), (0, u "java/lang/Object"), (0, .class_ 3)] 3

/-- java/lang/Cloneable -/
def k15 : Class := { plain "java/lang/Cloneable" (some 0) with
  accessFlags := 1537
  interfaces := #[]
  cf := some (fileOf pool15 2 #[] #[] 1537 4 #[] #[])
  fields := #[]
  methods := #[]
  instanceTypes := #[]
  staticTypes := #[]
  resolved := Array.replicate 8 none
  statics := none }

/-- the primitive byte -/
def k16 : Class := { plain "byte" none with kind := .primitive 'B', accessFlags := 0x411 }
/-- [B -/
def k17 : Class := { plain "[B" (some 0) with kind := .array 16 .byte, interfaces := #[15, 5], accessFlags := 1041 }

/-- the primitive int -/
def k18 : Class := { plain "int" none with kind := .primitive 'I', accessFlags := 0x411 }
/-- [I -/
def k19 : Class := { plain "[I" (some 0) with kind := .array 18 .int, interfaces := #[15, 5], accessFlags := 1041 }

/-- [Ljava/lang/Integer; -/
def k20 : Class := { plain "[Ljava/lang/Integer;" (some 0) with kind := .array 13 (.object "java/lang/Integer"), interfaces := #[15, 5], accessFlags := 1041 }

def heap : Heap := #[{ cls := 7, slots := #[.ref 259, .ref 260, .ref 261, .ref 262, .ref 263, .null], vm := .statics 7 },
  { cls := 14, slots := #[.int 0, .int 127, .ref 2, .null, .int 0], vm := .statics 14 },
  { cls := 20, slots := #[.ref 3, .ref 4, .ref 5, .ref 6, .ref 7, .ref 8, .ref 9, .ref 10, .ref 11, .ref 12, .ref 13, .ref 14, .ref 15, .ref 16, .ref 17, .ref 18, .ref 19, .ref 20, .ref 21, .ref 22, .ref 23, .ref 24, .ref 25, .ref 26, .ref 27, .ref 28, .ref 29, .ref 30, .ref 31, .ref 32, .ref 33, .ref 34, .ref 35, .ref 36, .ref 37, .ref 38, .ref 39, .ref 40, .ref 41, .ref 42, .ref 43, .ref 44, .ref 45, .ref 46, .ref 47, .ref 48, .ref 49, .ref 50, .ref 51, .ref 52, .ref 53, .ref 54, .ref 55, .ref 56, .ref 57, .ref 58, .ref 59, .ref 60, .ref 61, .ref 62, .ref 63, .ref 64, .ref 65, .ref 66, .ref 67, .ref 68, .ref 69, .ref 70, .ref 71, .ref 72, .ref 73, .ref 74, .ref 75, .ref 76, .ref 77, .ref 78, .ref 79, .ref 80, .ref 81, .ref 82, .ref 83, .ref 84, .ref 85, .ref 86, .ref 87, .ref 88, .ref 89, .ref 90, .ref 91, .ref 92, .ref 93, .ref 94, .ref 95, .ref 96, .ref 97, .ref 98, .ref 99, .ref 100, .ref 101, .ref 102, .ref 103, .ref 104, .ref 105, .ref 106, .ref 107, .ref 108, .ref 109, .ref 110, .ref 111, .ref 112, .ref 113, .ref 114, .ref 115, .ref 116, .ref 117, .ref 118, .ref 119, .ref 120, .ref 121, .ref 122, .ref 123, .ref 124, .ref 125, .ref 126, .ref 127, .ref 128, .ref 129, .ref 130, .ref 131, .ref 132, .ref 133, .ref 134, .ref 135, .ref 136, .ref 137, .ref 138, .ref 139, .ref 140, .ref 141, .ref 142, .ref 143, .ref 144, .ref 145, .ref 146, .ref 147, .ref 148, .ref 149, .ref 150, .ref 151, .ref 152, .ref 153, .ref 154, .ref 155, .ref 156, .ref 157, .ref 158, .ref 159, .ref 160, .ref 161, .ref 162, .ref 163, .ref 164, .ref 165, .ref 166, .ref 167, .ref 168, .ref 169, .ref 170, .ref 171, .ref 172, .ref 173, .ref 174, .ref 175, .ref 176, .ref 177, .ref 178, .ref 179, .ref 180, .ref 181, .ref 182, .ref 183, .ref 184, .ref 185, .ref 186, .ref 187, .ref 188, .ref 189, .ref 190, .ref 191, .ref 192, .ref 193, .ref 194, .ref 195, .ref 196, .ref 197, .ref 198, .ref 199, .ref 200, .ref 201, .ref 202, .ref 203, .ref 204, .ref 205, .ref 206, .ref 207, .ref 208, .ref 209, .ref 210, .ref 211, .ref 212, .ref 213, .ref 214, .ref 215, .ref 216, .ref 217, .ref 218, .ref 219, .ref 220, .ref 221, .ref 222, .ref 223, .ref 224, .ref 225, .ref 226, .ref 227, .ref 228, .ref 229, .ref 230, .ref 231, .ref 232, .ref 233, .ref 234, .ref 235, .ref 236, .ref 237, .ref 238, .ref 239, .ref 240, .ref 241, .ref 242, .ref 243, .ref 244, .ref 245, .ref 246, .ref 247, .ref 248, .ref 249, .ref 250, .ref 251, .ref 252, .ref 253, .ref 254, .ref 255, .ref 256, .ref 257, .ref 258], vm := .none },
  { cls := 13, slots := #[.int (-128)], vm := .none },
  { cls := 13, slots := #[.int (-127)], vm := .none },
  { cls := 13, slots := #[.int (-126)], vm := .none },
  { cls := 13, slots := #[.int (-125)], vm := .none },
  { cls := 13, slots := #[.int (-124)], vm := .none },
  { cls := 13, slots := #[.int (-123)], vm := .none },
  { cls := 13, slots := #[.int (-122)], vm := .none },
  { cls := 13, slots := #[.int (-121)], vm := .none },
  { cls := 13, slots := #[.int (-120)], vm := .none },
  { cls := 13, slots := #[.int (-119)], vm := .none },
  { cls := 13, slots := #[.int (-118)], vm := .none },
  { cls := 13, slots := #[.int (-117)], vm := .none },
  { cls := 13, slots := #[.int (-116)], vm := .none },
  { cls := 13, slots := #[.int (-115)], vm := .none },
  { cls := 13, slots := #[.int (-114)], vm := .none },
  { cls := 13, slots := #[.int (-113)], vm := .none },
  { cls := 13, slots := #[.int (-112)], vm := .none },
  { cls := 13, slots := #[.int (-111)], vm := .none },
  { cls := 13, slots := #[.int (-110)], vm := .none },
  { cls := 13, slots := #[.int (-109)], vm := .none },
  { cls := 13, slots := #[.int (-108)], vm := .none },
  { cls := 13, slots := #[.int (-107)], vm := .none },
  { cls := 13, slots := #[.int (-106)], vm := .none },
  { cls := 13, slots := #[.int (-105)], vm := .none },
  { cls := 13, slots := #[.int (-104)], vm := .none },
  { cls := 13, slots := #[.int (-103)], vm := .none },
  { cls := 13, slots := #[.int (-102)], vm := .none },
  { cls := 13, slots := #[.int (-101)], vm := .none },
  { cls := 13, slots := #[.int (-100)], vm := .none },
  { cls := 13, slots := #[.int (-99)], vm := .none },
  { cls := 13, slots := #[.int (-98)], vm := .none },
  { cls := 13, slots := #[.int (-97)], vm := .none },
  { cls := 13, slots := #[.int (-96)], vm := .none },
  { cls := 13, slots := #[.int (-95)], vm := .none },
  { cls := 13, slots := #[.int (-94)], vm := .none },
  { cls := 13, slots := #[.int (-93)], vm := .none },
  { cls := 13, slots := #[.int (-92)], vm := .none },
  { cls := 13, slots := #[.int (-91)], vm := .none },
  { cls := 13, slots := #[.int (-90)], vm := .none },
  { cls := 13, slots := #[.int (-89)], vm := .none },
  { cls := 13, slots := #[.int (-88)], vm := .none },
  { cls := 13, slots := #[.int (-87)], vm := .none },
  { cls := 13, slots := #[.int (-86)], vm := .none },
  { cls := 13, slots := #[.int (-85)], vm := .none },
  { cls := 13, slots := #[.int (-84)], vm := .none },
  { cls := 13, slots := #[.int (-83)], vm := .none },
  { cls := 13, slots := #[.int (-82)], vm := .none },
  { cls := 13, slots := #[.int (-81)], vm := .none },
  { cls := 13, slots := #[.int (-80)], vm := .none },
  { cls := 13, slots := #[.int (-79)], vm := .none },
  { cls := 13, slots := #[.int (-78)], vm := .none },
  { cls := 13, slots := #[.int (-77)], vm := .none },
  { cls := 13, slots := #[.int (-76)], vm := .none },
  { cls := 13, slots := #[.int (-75)], vm := .none },
  { cls := 13, slots := #[.int (-74)], vm := .none },
  { cls := 13, slots := #[.int (-73)], vm := .none },
  { cls := 13, slots := #[.int (-72)], vm := .none },
  { cls := 13, slots := #[.int (-71)], vm := .none },
  { cls := 13, slots := #[.int (-70)], vm := .none },
  { cls := 13, slots := #[.int (-69)], vm := .none },
  { cls := 13, slots := #[.int (-68)], vm := .none },
  { cls := 13, slots := #[.int (-67)], vm := .none },
  { cls := 13, slots := #[.int (-66)], vm := .none },
  { cls := 13, slots := #[.int (-65)], vm := .none },
  { cls := 13, slots := #[.int (-64)], vm := .none },
  { cls := 13, slots := #[.int (-63)], vm := .none },
  { cls := 13, slots := #[.int (-62)], vm := .none },
  { cls := 13, slots := #[.int (-61)], vm := .none },
  { cls := 13, slots := #[.int (-60)], vm := .none },
  { cls := 13, slots := #[.int (-59)], vm := .none },
  { cls := 13, slots := #[.int (-58)], vm := .none },
  { cls := 13, slots := #[.int (-57)], vm := .none },
  { cls := 13, slots := #[.int (-56)], vm := .none },
  { cls := 13, slots := #[.int (-55)], vm := .none },
  { cls := 13, slots := #[.int (-54)], vm := .none },
  { cls := 13, slots := #[.int (-53)], vm := .none },
  { cls := 13, slots := #[.int (-52)], vm := .none },
  { cls := 13, slots := #[.int (-51)], vm := .none },
  { cls := 13, slots := #[.int (-50)], vm := .none },
  { cls := 13, slots := #[.int (-49)], vm := .none },
  { cls := 13, slots := #[.int (-48)], vm := .none },
  { cls := 13, slots := #[.int (-47)], vm := .none },
  { cls := 13, slots := #[.int (-46)], vm := .none },
  { cls := 13, slots := #[.int (-45)], vm := .none },
  { cls := 13, slots := #[.int (-44)], vm := .none },
  { cls := 13, slots := #[.int (-43)], vm := .none },
  { cls := 13, slots := #[.int (-42)], vm := .none },
  { cls := 13, slots := #[.int (-41)], vm := .none },
  { cls := 13, slots := #[.int (-40)], vm := .none },
  { cls := 13, slots := #[.int (-39)], vm := .none },
  { cls := 13, slots := #[.int (-38)], vm := .none },
  { cls := 13, slots := #[.int (-37)], vm := .none },
  { cls := 13, slots := #[.int (-36)], vm := .none },
  { cls := 13, slots := #[.int (-35)], vm := .none },
  { cls := 13, slots := #[.int (-34)], vm := .none },
  { cls := 13, slots := #[.int (-33)], vm := .none },
  { cls := 13, slots := #[.int (-32)], vm := .none },
  { cls := 13, slots := #[.int (-31)], vm := .none },
  { cls := 13, slots := #[.int (-30)], vm := .none },
  { cls := 13, slots := #[.int (-29)], vm := .none },
  { cls := 13, slots := #[.int (-28)], vm := .none },
  { cls := 13, slots := #[.int (-27)], vm := .none },
  { cls := 13, slots := #[.int (-26)], vm := .none },
  { cls := 13, slots := #[.int (-25)], vm := .none },
  { cls := 13, slots := #[.int (-24)], vm := .none },
  { cls := 13, slots := #[.int (-23)], vm := .none },
  { cls := 13, slots := #[.int (-22)], vm := .none },
  { cls := 13, slots := #[.int (-21)], vm := .none },
  { cls := 13, slots := #[.int (-20)], vm := .none },
  { cls := 13, slots := #[.int (-19)], vm := .none },
  { cls := 13, slots := #[.int (-18)], vm := .none },
  { cls := 13, slots := #[.int (-17)], vm := .none },
  { cls := 13, slots := #[.int (-16)], vm := .none },
  { cls := 13, slots := #[.int (-15)], vm := .none },
  { cls := 13, slots := #[.int (-14)], vm := .none },
  { cls := 13, slots := #[.int (-13)], vm := .none },
  { cls := 13, slots := #[.int (-12)], vm := .none },
  { cls := 13, slots := #[.int (-11)], vm := .none },
  { cls := 13, slots := #[.int (-10)], vm := .none },
  { cls := 13, slots := #[.int (-9)], vm := .none },
  { cls := 13, slots := #[.int (-8)], vm := .none },
  { cls := 13, slots := #[.int (-7)], vm := .none },
  { cls := 13, slots := #[.int (-6)], vm := .none },
  { cls := 13, slots := #[.int (-5)], vm := .none },
  { cls := 13, slots := #[.int (-4)], vm := .none },
  { cls := 13, slots := #[.int (-3)], vm := .none },
  { cls := 13, slots := #[.int (-2)], vm := .none },
  { cls := 13, slots := #[.int (-1)], vm := .none },
  { cls := 13, slots := #[.int (0)], vm := .none },
  { cls := 13, slots := #[.int (1)], vm := .none },
  { cls := 13, slots := #[.int (2)], vm := .none },
  { cls := 13, slots := #[.int (3)], vm := .none },
  { cls := 13, slots := #[.int (4)], vm := .none },
  { cls := 13, slots := #[.int (5)], vm := .none },
  { cls := 13, slots := #[.int (6)], vm := .none },
  { cls := 13, slots := #[.int (7)], vm := .none },
  { cls := 13, slots := #[.int (8)], vm := .none },
  { cls := 13, slots := #[.int (9)], vm := .none },
  { cls := 13, slots := #[.int (10)], vm := .none },
  { cls := 13, slots := #[.int (11)], vm := .none },
  { cls := 13, slots := #[.int (12)], vm := .none },
  { cls := 13, slots := #[.int (13)], vm := .none },
  { cls := 13, slots := #[.int (14)], vm := .none },
  { cls := 13, slots := #[.int (15)], vm := .none },
  { cls := 13, slots := #[.int (16)], vm := .none },
  { cls := 13, slots := #[.int (17)], vm := .none },
  { cls := 13, slots := #[.int (18)], vm := .none },
  { cls := 13, slots := #[.int (19)], vm := .none },
  { cls := 13, slots := #[.int (20)], vm := .none },
  { cls := 13, slots := #[.int (21)], vm := .none },
  { cls := 13, slots := #[.int (22)], vm := .none },
  { cls := 13, slots := #[.int (23)], vm := .none },
  { cls := 13, slots := #[.int (24)], vm := .none },
  { cls := 13, slots := #[.int (25)], vm := .none },
  { cls := 13, slots := #[.int (26)], vm := .none },
  { cls := 13, slots := #[.int (27)], vm := .none },
  { cls := 13, slots := #[.int (28)], vm := .none },
  { cls := 13, slots := #[.int (29)], vm := .none },
  { cls := 13, slots := #[.int (30)], vm := .none },
  { cls := 13, slots := #[.int (31)], vm := .none },
  { cls := 13, slots := #[.int (32)], vm := .none },
  { cls := 13, slots := #[.int (33)], vm := .none },
  { cls := 13, slots := #[.int (34)], vm := .none },
  { cls := 13, slots := #[.int (35)], vm := .none },
  { cls := 13, slots := #[.int (36)], vm := .none },
  { cls := 13, slots := #[.int (37)], vm := .none },
  { cls := 13, slots := #[.int (38)], vm := .none },
  { cls := 13, slots := #[.int (39)], vm := .none },
  { cls := 13, slots := #[.int (40)], vm := .none },
  { cls := 13, slots := #[.int (41)], vm := .none },
  { cls := 13, slots := #[.int (42)], vm := .none },
  { cls := 13, slots := #[.int (43)], vm := .none },
  { cls := 13, slots := #[.int (44)], vm := .none },
  { cls := 13, slots := #[.int (45)], vm := .none },
  { cls := 13, slots := #[.int (46)], vm := .none },
  { cls := 13, slots := #[.int (47)], vm := .none },
  { cls := 13, slots := #[.int (48)], vm := .none },
  { cls := 13, slots := #[.int (49)], vm := .none },
  { cls := 13, slots := #[.int (50)], vm := .none },
  { cls := 13, slots := #[.int (51)], vm := .none },
  { cls := 13, slots := #[.int (52)], vm := .none },
  { cls := 13, slots := #[.int (53)], vm := .none },
  { cls := 13, slots := #[.int (54)], vm := .none },
  { cls := 13, slots := #[.int (55)], vm := .none },
  { cls := 13, slots := #[.int (56)], vm := .none },
  { cls := 13, slots := #[.int (57)], vm := .none },
  { cls := 13, slots := #[.int (58)], vm := .none },
  { cls := 13, slots := #[.int (59)], vm := .none },
  { cls := 13, slots := #[.int (60)], vm := .none },
  { cls := 13, slots := #[.int (61)], vm := .none },
  { cls := 13, slots := #[.int (62)], vm := .none },
  { cls := 13, slots := #[.int (63)], vm := .none },
  { cls := 13, slots := #[.int (64)], vm := .none },
  { cls := 13, slots := #[.int (65)], vm := .none },
  { cls := 13, slots := #[.int (66)], vm := .none },
  { cls := 13, slots := #[.int (67)], vm := .none },
  { cls := 13, slots := #[.int (68)], vm := .none },
  { cls := 13, slots := #[.int (69)], vm := .none },
  { cls := 13, slots := #[.int (70)], vm := .none },
  { cls := 13, slots := #[.int (71)], vm := .none },
  { cls := 13, slots := #[.int (72)], vm := .none },
  { cls := 13, slots := #[.int (73)], vm := .none },
  { cls := 13, slots := #[.int (74)], vm := .none },
  { cls := 13, slots := #[.int (75)], vm := .none },
  { cls := 13, slots := #[.int (76)], vm := .none },
  { cls := 13, slots := #[.int (77)], vm := .none },
  { cls := 13, slots := #[.int (78)], vm := .none },
  { cls := 13, slots := #[.int (79)], vm := .none },
  { cls := 13, slots := #[.int (80)], vm := .none },
  { cls := 13, slots := #[.int (81)], vm := .none },
  { cls := 13, slots := #[.int (82)], vm := .none },
  { cls := 13, slots := #[.int (83)], vm := .none },
  { cls := 13, slots := #[.int (84)], vm := .none },
  { cls := 13, slots := #[.int (85)], vm := .none },
  { cls := 13, slots := #[.int (86)], vm := .none },
  { cls := 13, slots := #[.int (87)], vm := .none },
  { cls := 13, slots := #[.int (88)], vm := .none },
  { cls := 13, slots := #[.int (89)], vm := .none },
  { cls := 13, slots := #[.int (90)], vm := .none },
  { cls := 13, slots := #[.int (91)], vm := .none },
  { cls := 13, slots := #[.int (92)], vm := .none },
  { cls := 13, slots := #[.int (93)], vm := .none },
  { cls := 13, slots := #[.int (94)], vm := .none },
  { cls := 13, slots := #[.int (95)], vm := .none },
  { cls := 13, slots := #[.int (96)], vm := .none },
  { cls := 13, slots := #[.int (97)], vm := .none },
  { cls := 13, slots := #[.int (98)], vm := .none },
  { cls := 13, slots := #[.int (99)], vm := .none },
  { cls := 13, slots := #[.int (100)], vm := .none },
  { cls := 13, slots := #[.int (101)], vm := .none },
  { cls := 13, slots := #[.int (102)], vm := .none },
  { cls := 13, slots := #[.int (103)], vm := .none },
  { cls := 13, slots := #[.int (104)], vm := .none },
  { cls := 13, slots := #[.int (105)], vm := .none },
  { cls := 13, slots := #[.int (106)], vm := .none },
  { cls := 13, slots := #[.int (107)], vm := .none },
  { cls := 13, slots := #[.int (108)], vm := .none },
  { cls := 13, slots := #[.int (109)], vm := .none },
  { cls := 13, slots := #[.int (110)], vm := .none },
  { cls := 13, slots := #[.int (111)], vm := .none },
  { cls := 13, slots := #[.int (112)], vm := .none },
  { cls := 13, slots := #[.int (113)], vm := .none },
  { cls := 13, slots := #[.int (114)], vm := .none },
  { cls := 13, slots := #[.int (115)], vm := .none },
  { cls := 13, slots := #[.int (116)], vm := .none },
  { cls := 13, slots := #[.int (117)], vm := .none },
  { cls := 13, slots := #[.int (118)], vm := .none },
  { cls := 13, slots := #[.int (119)], vm := .none },
  { cls := 13, slots := #[.int (120)], vm := .none },
  { cls := 13, slots := #[.int (121)], vm := .none },
  { cls := 13, slots := #[.int (122)], vm := .none },
  { cls := 13, slots := #[.int (123)], vm := .none },
  { cls := 13, slots := #[.int (124)], vm := .none },
  { cls := 13, slots := #[.int (125)], vm := .none },
  { cls := 13, slots := #[.int (126)], vm := .none },
  { cls := 13, slots := #[.int (127)], vm := .none },
  { cls := 7, slots := #[.null, .int 0, .int 0, .null], vm := .none },
  { cls := 7, slots := #[.null, .int 1, .int 0, .null], vm := .none },
  { cls := 7, slots := #[.null, .int 2, .int 0, .null], vm := .none },
  { cls := 7, slots := #[.null, .int 3, .int 0, .null], vm := .none },
  { cls := 7, slots := #[.null, .int 4, .int 0, .null], vm := .none }]
def classes : Array Class := #[k0, k1, k2, k3, k4, k5, k6, k7, k8, k9, k10, k11, k12, k13, k14, k15, k16, k17, k18, k19, k20]
def interned : List (Array UInt16 × Addr) := []
def slotsUsed : Nat := 543
def theMethod : MethodId := ⟨1, 2⟩
def args0 : Array Value := #[.int 5, .int 7, .int 9, .int 3, .int 1]
def aboutOver (below : List Frame) : State where
  vm := { classes := classes, interned := interned.toArray }
  heap := heap
  slotsUsed := slotsUsed
  threads := #[{ frames := .invoking theMethod args0 :: below }]
def below0 : List Frame := [.native { method := ⟨0, 0⟩, args := #[] }]
def about1 : State := aboutOver below0
def p0 : Program := .bare "" "" ""
def e0 : Env := launch0.env 0 0 0
theorem w_frames : about1.frames = Frame.invoking theMethod args0 :: below0 := rfl
set_option maxRecDepth 65536 in
theorem w_args : argsFit about1.vm theMethod args0 = true := by decide +kernel
set_option maxRecDepth 65536 in
theorem w_heap : heapFits about1 = true := by decide +kernel
set_option maxRecDepth 65536 in
theorem w_runnable : about1.curStatus? = some .runnable := by decide +kernel
set_option maxRecDepth 65536 in
theorem w_alone : about1.alone = true := by decide +kernel
set_option maxRecDepth 65536 in
theorem w_named : about1.methodNamed? x = some theMethod := by decide +kernel
set_option maxRecDepth 65536 in
theorem w_hears : about1.hears theMethod below0 = true := by decide +kernel
set_option maxRecDepth 65536 in
theorem w_ripe : about1.ripe theMethod args0 below0 = true := by decide +kernel
theorem w_running : about1.status = .running := rfl
set_option maxRecDepth 65536 in
theorem w_room : about1.hasRoom e0.platform room_1 = true :=
  launch0.hasRoom_least _ room_1 (by decide +kernel) (by decide +kernel) (by decide +kernel) (by decide +kernel) (by decide +kernel) (by decide +kernel)
theorem allAtoms_all (ts : List Jvm.Cond) (a : Array Jvm.Value) (st : Jvm.State) : (allAtoms ts).before a st = ts.all (fun c => c.before a st) := by
  induction ts with
  | nil => rfl
  | cons c t ih =>
    show (Jvm.Cond.and c (allAtoms t)).before a st = _
    rw [Jvm.Cond.before_and, ih, List.all_cons]
def words1 : List Jvm.Cond := Jvm.Cond.code x code maxLocals ret :: tables_1
/-- a 'code' word, met by the world's own term for the bytes: nothing is compared byte by byte -/
theorem code_word {y : MethodName} {bytes : ByteArray} {mx : Nat} {rt : Option FieldType} {a : Array Value} {s : State} {m : MethodId} {meth : Method} {c : Code} (h1 : s.methodNamed? y = some m) (h2 : s.vm.method? m = some meth) (h3 : meth.code = some c) (h4 : c.code = bytes)
    (h5 : (c.maxLocals == mx && c.exceptionTable.isEmpty && decide (c.maxStack ≤ mostOperands) && decide (meth.sig.returnType = rt) && !meth.locks && decide (parseMethodDescriptor y.desc = some meth.sig)) = true) : (Jvm.Cond.code y bytes mx rt).before a s = true := by
  simp only [Bool.and_eq_true, beq_iff_eq, Bool.not_eq_true', decide_eq_true_eq] at h5
  obtain ⟨⟨⟨⟨⟨g1, g2⟩, g3⟩, g4⟩, g5⟩, g6⟩ := h5
  simp [Cond.before, Cond.holds, Cond.value, h1, h2, h3, h4, g1, g2, g3, g4, g5, g6]
def isCode : Jvm.Cond → Bool
  | .code _ _ _ _ => true
  | _ => false
theorem all_split {L : List Jvm.Cond} {P : Jvm.Cond → Bool} (h1 : L.all (fun c => isCode c || P c) = true) (h2 : ∀ c ∈ L.filter isCode, P c = true) : L.all P = true := by
  refine List.all_eq_true.mpr fun c hc => ?_
  have h := List.all_eq_true.mp h1 c hc
  rcases Bool.eq_false_or_eq_true (isCode c) with hi | hi
  · exact h2 c (List.mem_filter.mpr ⟨hc, hi⟩)
  · simpa [hi] using h
set_option maxRecDepth 65536 in
theorem w_c0 : (Jvm.Cond.code x code maxLocals ret).before args0 about1 = true := code_word (m := ⟨1, 2⟩) (meth := k1m2) (c := k1c2) (by decide +kernel) rfl rfl rfl (by decide +kernel)
set_option maxRecDepth 65536 in
theorem w_c1 : (Jvm.Cond.code ({ cls := "com/example/bare_triage/baretriage/snapshot/ActivityInfoEqualsPinLaw", name := "state", desc := "(I)Lcom/example/bare_triage/baretriage/snapshot/ActivityState;" } : Jvm.MethodName) method_2_code (1 : Nat) (Option.some (Jvm.ClassFile.FieldType.object "com/example/bare_triage/baretriage/snapshot/ActivityState"))).before args0 about1 = true := code_word (m := ⟨1, 1⟩) (meth := k1m1) (c := k1c1) (by decide +kernel) rfl rfl rfl (by decide +kernel)
set_option maxRecDepth 65536 in
theorem w_c2 : (Jvm.Cond.code ({ cls := "com/example/bare_triage/baretriage/snapshot/ActivityInfo", name := "<init>", desc := "(Lcom/example/bare_triage/baretriage/snapshot/ActivityState;ZI)V" } : Jvm.MethodName) prog_31_method_1_code (4 : Nat) (Option.none : Option Jvm.ClassFile.FieldType)).before args0 about1 = true := code_word (m := ⟨2, 0⟩) (meth := k2m0) (c := k2c0) (by decide +kernel) rfl rfl rfl (by decide +kernel)
set_option maxRecDepth 65536 in
theorem w_c3 : (Jvm.Cond.code ({ cls := "java/lang/Object", name := "<init>", desc := "()V" } : Jvm.MethodName) object_method_1_code (1 : Nat) (Option.none : Option Jvm.ClassFile.FieldType)).before args0 about1 = true := code_word (m := ⟨0, 0⟩) (meth := k0m0) (c := k0c0) (by decide +kernel) rfl rfl rfl (by decide +kernel)
set_option maxRecDepth 65536 in
theorem w_c4 : (Jvm.Cond.code ({ cls := "java/util/Objects", name := "requireNonNull", desc := "(Ljava/lang/Object;Ljava/lang/String;)Ljava/lang/Object;" } : Jvm.MethodName) jdk_31_method_11_code (2 : Nat) (Option.some (Jvm.ClassFile.FieldType.object "java/lang/Object"))).before args0 about1 = true := code_word (m := ⟨11, 1⟩) (meth := k11m1) (c := k11c1) (by decide +kernel) rfl rfl rfl (by decide +kernel)
set_option maxRecDepth 65536 in
theorem w_c5 : (Jvm.Cond.code ({ cls := "com/example/bare_triage/baretriage/snapshot/ActivityInfo", name := "equals", desc := "(Ljava/lang/Object;)Z" } : Jvm.MethodName) prog_31_method_5_code (3 : Nat) (Option.some Jvm.ClassFile.FieldType.boolean)).before args0 about1 = true := code_word (m := ⟨2, 1⟩) (meth := k2m1) (c := k2c1) (by decide +kernel) rfl rfl rfl (by decide +kernel)
set_option maxRecDepth 65536 in
theorem w_c6 : (Jvm.Cond.code ({ cls := "java/lang/Integer", name := "valueOf", desc := "(I)Ljava/lang/Integer;" } : Jvm.MethodName) jdk_33_method_22_code (1 : Nat) (Option.some (Jvm.ClassFile.FieldType.object "java/lang/Integer"))).before args0 about1 = true := code_word (m := ⟨13, 0⟩) (meth := k13m0) (c := k13c0) (by decide +kernel) rfl rfl rfl (by decide +kernel)
set_option maxRecDepth 65536 in
theorem w_c7 : (Jvm.Cond.code ({ cls := "java/lang/Integer", name := "<init>", desc := "(I)V" } : Jvm.MethodName) jdk_33_method_23_code (2 : Nat) (Option.none : Option Jvm.ClassFile.FieldType)).before args0 about1 = true := code_word (m := ⟨13, 1⟩) (meth := k13m1) (c := k13c1) (by decide +kernel) rfl rfl rfl (by decide +kernel)
set_option maxRecDepth 65536 in
theorem w_c8 : (Jvm.Cond.code ({ cls := "java/lang/Number", name := "<init>", desc := "()V" } : Jvm.MethodName) jdk_18_method_1_code (1 : Nat) (Option.none : Option Jvm.ClassFile.FieldType)).before args0 about1 = true := code_word (m := ⟨12, 0⟩) (meth := k12m0) (c := k12c0) (by decide +kernel) rfl rfl rfl (by decide +kernel)
def codes1 : List Jvm.Cond := [Jvm.Cond.code x code maxLocals ret, Jvm.Cond.code ({ cls := "com/example/bare_triage/baretriage/snapshot/ActivityInfoEqualsPinLaw", name := "state", desc := "(I)Lcom/example/bare_triage/baretriage/snapshot/ActivityState;" } : Jvm.MethodName) method_2_code (1 : Nat) (Option.some (Jvm.ClassFile.FieldType.object "com/example/bare_triage/baretriage/snapshot/ActivityState")), Jvm.Cond.code ({ cls := "com/example/bare_triage/baretriage/snapshot/ActivityInfo", name := "<init>", desc := "(Lcom/example/bare_triage/baretriage/snapshot/ActivityState;ZI)V" } : Jvm.MethodName) prog_31_method_1_code (4 : Nat) (Option.none : Option Jvm.ClassFile.FieldType), Jvm.Cond.code ({ cls := "java/lang/Object", name := "<init>", desc := "()V" } : Jvm.MethodName) object_method_1_code (1 : Nat) (Option.none : Option Jvm.ClassFile.FieldType), Jvm.Cond.code ({ cls := "java/util/Objects", name := "requireNonNull", desc := "(Ljava/lang/Object;Ljava/lang/String;)Ljava/lang/Object;" } : Jvm.MethodName) jdk_31_method_11_code (2 : Nat) (Option.some (Jvm.ClassFile.FieldType.object "java/lang/Object")), Jvm.Cond.code ({ cls := "com/example/bare_triage/baretriage/snapshot/ActivityInfo", name := "equals", desc := "(Ljava/lang/Object;)Z" } : Jvm.MethodName) prog_31_method_5_code (3 : Nat) (Option.some Jvm.ClassFile.FieldType.boolean), Jvm.Cond.code ({ cls := "java/lang/Integer", name := "valueOf", desc := "(I)Ljava/lang/Integer;" } : Jvm.MethodName) jdk_33_method_22_code (1 : Nat) (Option.some (Jvm.ClassFile.FieldType.object "java/lang/Integer")), Jvm.Cond.code ({ cls := "java/lang/Integer", name := "<init>", desc := "(I)V" } : Jvm.MethodName) jdk_33_method_23_code (2 : Nat) (Option.none : Option Jvm.ClassFile.FieldType), Jvm.Cond.code ({ cls := "java/lang/Number", name := "<init>", desc := "()V" } : Jvm.MethodName) jdk_18_method_1_code (1 : Nat) (Option.none : Option Jvm.ClassFile.FieldType)]
set_option maxRecDepth 65536 in
theorem codes_eq : words1.filter isCode = codes1 := rfl
theorem w_codes : ∀ c ∈ words1.filter isCode, c.before args0 about1 = true := by
  rw [codes_eq]
  intro c hc
  simp only [codes1, List.mem_cons, List.not_mem_nil, or_false] at hc
  rcases hc with rfl | rfl | rfl | rfl | rfl | rfl | rfl | rfl | rfl
  · exact w_c0
  · exact w_c1
  · exact w_c2
  · exact w_c3
  · exact w_c4
  · exact w_c5
  · exact w_c6
  · exact w_c7
  · exact w_c8
set_option maxRecDepth 65536 in
theorem w_t1 : (words1.take 24).all (fun c => isCode c || c.before args0 about1) = true := by decide +kernel
set_option maxRecDepth 65536 in
theorem w_t2 : ((words1.drop 24).take 24).all (fun c => isCode c || c.before args0 about1) = true := by decide +kernel
set_option maxRecDepth 65536 in
theorem w_t3 : (((words1.drop 24).drop 24).take 24).all (fun c => isCode c || c.before args0 about1) = true := by decide +kernel
set_option maxRecDepth 65536 in
theorem w_t4 : (((words1.drop 24).drop 24).drop 24).all (fun c => isCode c || c.before args0 about1) = true := by decide +kernel
theorem w_tables : (allAtoms (Jvm.Cond.code x code maxLocals ret :: tables_1)).before args0 about1 = true := by
  rw [allAtoms_all]
  show words1.all (fun c => c.before args0 about1) = true
  refine all_split ?_ w_codes
  rw [← List.take_append_drop 24 words1, List.all_append, w_t1, ← List.take_append_drop 24 (words1.drop 24), List.all_append, w_t2, ← List.take_append_drop 24 ((words1.drop 24).drop 24), List.all_append, w_t3, w_t4]
  rfl
set_option maxRecDepth 65536 in
theorem w_rest : rest_1_c.before args0 about1 = true := by decide +kernel
set_option maxRecDepth 65536 in
theorem w_case : (Jvm.Cond.and given_1 narrow_1).before args0 about1 = true := by decide +kernel
theorem w_applies : (headSpec (Jvm.Cond.code x code maxLocals ret :: tables_1) room_1).applies x e0.platform about1 = true :=
  (Spec.applies_iff w_frames).mpr ⟨w_running, w_runnable, w_alone, w_named, w_hears, w_ripe, w_room, w_tables⟩
theorem atStart : AtStart classFile x code maxLocals ret World_1 tables_1 room_1 Calls_1 rest_1 Pre_1 launch0 p0 e0 about1 theMethod args0 below0 :=
  ⟨lists_1, trivial, launch0.admits_env _ _ _, launch0.least_env, fairChoices_fair.cas, fairChoices_fair.clock, w_frames, w_args, w_heap, w_applies, trivial, w_rest, w_case⟩
end start1
theorem witness_1 : WitnessClaimed_1 := ⟨start1.p0, start1.e0, start1.about1, start1.theMethod, start1.args0, start1.below0, start1.atStart⟩
end Jvm.Pilot.@@N@@
